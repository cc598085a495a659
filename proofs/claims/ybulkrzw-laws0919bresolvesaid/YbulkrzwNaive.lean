import Derived.Test.YbulkrzwMaj
import Derived.WalkSpells
namespace Go.Proofs.Ybulkrzw
open Go.RowKit
set_option linter.unusedVariables false

/-- The pairing off keeps: no value but the candidate holds more than half of what was not paired off. -/
theorem bm_inv (xs : List Int) : ∀ v, (v ≠ (bm xs).1 → 2 * (xs.count v : Int) ≤ xs.length - (bm xs).2) ∧ (v = (bm xs).1 → 2 * (xs.count v : Int) ≤ xs.length + (bm xs).2) := by
  suffices h : ∀ (n : Nat) (xs : List Int), xs.length = n → ∀ v, (v ≠ (bm xs).1 → 2 * (xs.count v : Int) ≤ xs.length - (bm xs).2) ∧ (v = (bm xs).1 → 2 * (xs.count v : Int) ≤ xs.length + (bm xs).2) from h _ xs rfl
  intro n
  induction n with
  | zero =>
    intro xs hx v
    obtain rfl : xs = [] := List.eq_nil_of_length_eq_zero hx
    simp [bm]
  | succ n ih =>
    intro xs hx v
    have hne : xs ≠ [] := by intro e; subst e; simp at hx
    obtain ⟨ys, x, rfl⟩ : ∃ ys x, xs = ys ++ [x] := ⟨xs.dropLast, xs.getLast hne, (List.dropLast_concat_getLast hne).symm⟩
    have hy : ys.length = n := by simpa using hx
    have h1 := ih ys hy
    have hl := bm_lead ys
    rw [bm_snoc]
    have hc : ((ys ++ [x]).count v : Int) = (ys.count v : Int) + (if x = v then 1 else 0) := by
      rw [List.count_append]
      by_cases e : x = v
      · subst e; simp
      · simp [e]
    have hlen : ((ys ++ [x]).length : Int) = (ys.length : Int) + 1 := by simp
    rw [hc, hlen]
    obtain ⟨c, l, hb⟩ : ∃ c l, bm ys = (c, l) := ⟨_, _, rfl⟩
    rw [hb]
    simp only [hb] at h1 hl
    unfold bmStep
    have hv := h1 v
    have hxx := h1 x
    by_cases e0 : l = 0
    · rw [if_pos e0]
      subst e0
      refine ⟨fun hne => ?_, fun heq => ?_⟩
      · rw [if_neg (fun h => hne h.symm)]
        by_cases e1 : v = c
        · have := hv.2 e1; simp only; omega
        · have := hv.1 e1; simp only; omega
      · rw [if_pos heq.symm]
        by_cases e1 : v = c
        · have := hv.2 e1; simp only; omega
        · have := hv.1 e1; simp only; omega
    · rw [if_neg e0]
      by_cases e1 : x = c
      · rw [if_pos e1]
        refine ⟨fun hne => ?_, fun heq => ?_⟩
        · have h2 : v ≠ c := hne
          rw [if_neg (fun h : x = v => h2 (h.symm.trans e1))]
          have := hv.1 h2; simp only; omega
        · have h2 : v = c := heq
          rw [if_pos (e1.trans h2.symm)]
          have := hv.2 h2; simp only; omega
      · rw [if_neg e1]
        refine ⟨fun hne => ?_, fun heq => ?_⟩
        · have h2 : v ≠ c := hne
          have h3 := hv.1 h2
          by_cases e2 : x = v
          · rw [if_pos e2]; simp only; omega
          · rw [if_neg e2]; simp only; omega
        · have h2 : v = c := heq
          rw [if_neg (fun h => e1 (h.trans h2))]
          have := hv.2 h2; simp only; omega

theorem maj_of_most (xs : List Int) (v : Int) (h : (xs.length : Int) < 2 * (xs.count v : Int)) : maj xs = v := by
  have h1 : v = (bm xs).1 := by
    apply Classical.byContradiction
    intro hne
    have := (bm_inv xs v).1 hne
    have := (bm_lead xs).1
    omega
  unfold maj
  rw [← h1, if_pos h]

theorem maj_of_none (xs : List Int) (h : ∀ v ∈ xs, ¬ (xs.length : Int) < 2 * (xs.count v : Int)) : maj xs = 0 := by
  unfold maj
  by_cases e : (xs.length : Int) < 2 * (xs.count (bm xs).1 : Int)
  · exfalso
    have hm : (bm xs).1 ∈ xs := by
      apply List.count_pos_iff.1
      omega
    exact h _ hm e
  · rw [if_neg e]

theorem count_step (xs : List Int) (c : Int) (j : Nat) (h : j < xs.length) : (xs.take (j + 1)).count c = (xs.take j).count c + (if xs.getD j 0 = c then 1 else 0) := by
  rw [take_snoc xs j h, List.count_append]
  congr 1
  simp only [List.count_cons, List.count_nil, beq_iff_eq, Nat.zero_add]

set_option maxHeartbeats 1000000 in
set_option maxRecDepth 100000 in
/-- The plain count finds the same majority as the pairing off. -/
theorem naive_any (g o len cap : Nat) (xs : List Int) (w : World) (hl : xs.length = len) (hlen : len ≤ 1000) (hc : ∀ j, j < len → w.cell? ⟨g, o + j, none⟩ = some (.int .i64 (xs.getD j 0))) :
    Calls Yba.prog 17 #[.slice (some ⟨g, o, none⟩) len cap] w fun e w' => e = .returned (.int .i64 (maj xs)) ∧ ∃ q, w' = w.drewN q := by
  have CC : Hid (∀ j, j < len → w.cell? ⟨g, o + j, none⟩ = some (.int .i64 (xs.getD j 0))) := hc
  clear hc
  go_enter Yba.func17, Yba.ntmps17
  go_wp2_with fail
  go_loopw [8] (fun i wr => ∃ k q : Nat, k ≤ len ∧ i = .int .i64 k ∧ wr = w.drewN q ∧ ∀ j, j < k → ¬ (len : Int) < 2 * (xs.count (xs.getD j 0) : Int)) (fun i _ => len - (intOf i).toNat)
  case atStart => exact ⟨0, 0, Nat.zero_le _, rfl, rfl, fun j hj => by omega⟩
  case round =>
    obtain ⟨k, q, hk, rfl, rfl, hno⟩ := hrel
    have HN : Hid (∀ j, j < k → ¬ (len : Int) < 2 * (xs.count (xs.getD j 0) : Int)) := hno
    clear hno
    by_cases hlt : k < len
    · have hck := CC.out k hlt
      obtain ⟨v, hv⟩ : ∃ v, v = xs.getD k 0 := ⟨_, rfl⟩
      rw [← hv] at hck
      have HV : Hid (v = xs.getD k 0) := hv
      clear hv
      go_wp2_with fail
      go_loopw [4, 13] (fun c i wr => ∃ j q : Nat, j ≤ len ∧ i = .int .i64 j ∧ wr = w.drewN q ∧ c = .int .i64 ((xs.take j).count v : Nat)) (fun _ i _ => len - (intOf i).toNat)
      case atStart => exact ⟨0, q, Nat.zero_le _, rfl, rfl, rfl⟩
      case round =>
        obtain ⟨j, q2, hj, rfl, rfl, rfl⟩ := hrel
        have hcl := count_le xs v j
        by_cases hlt2 : j < len
        · have hcj := CC.out j hlt2
          have hs := count_step xs v j (by omega)
          generalize xs.getD j 0 = u at hcj hs
          have HS : Hid ((xs.take (j + 1)).count v = (xs.take j).count v + (if u = v then 1 else 0)) := hs
          clear hs
          generalize (xs.take j).count v = c at *
          by_cases huv : u = v
          · have t1 : (u == v) = true := by simp [huv]
            have hq : (xs.take (j + 1)).count v = c + 1 := by rw [HS.out, if_pos huv]
            have HQ : Hid ((xs.take (j + 1)).count v = c + 1) := hq
            clear hq huv
            go_wp2_with fail
            go_quiet (fail)
            go_wp2
            go_roundw
            case rel => exact ⟨j + 1, _, by omega, by go_num, rfl, by rw [HQ.out]; go_num⟩
            case measure => simp [intOf]; omega
          · have t1 : (u == v) = false := by simp [huv]
            have hq : (xs.take (j + 1)).count v = c := by rw [HS.out, if_neg huv]; rfl
            have HQ : Hid ((xs.take (j + 1)).count v = c) := hq
            clear hq
            go_wp2_with fail
            go_quiet (fail)
            go_wp2
            go_roundw
            case rel => exact ⟨j + 1, _, by omega, by go_num, rfl, by rw [HQ.out]⟩
            case measure => simp [intOf]; omega
        · obtain rfl : j = len := by omega
          have hfull : xs.take j = xs := List.take_of_length_le (by omega)
          rw [hfull] at hcl ⊢
          clear hfull
          by_cases hgt : (j : Int) < 2 * (xs.count v : Int)
          · have hm := maj_of_most xs v (by omega)
            have HM : Hid (maj xs = v) := hm
            clear hm
            generalize xs.count v = c at *
            go_wp2
            go_ret
            exact ⟨ret_int (by rw [HM.out]), _, rfl⟩
          · have hno2 : ∀ i, i < k + 1 → ¬ (j : Int) < 2 * (xs.count (xs.getD i 0) : Int) := by
              intro i hi
              by_cases e : i = k
              · subst e; rw [← HV.out]; exact hgt
              · have := HN.out i (by omega)
                omega
            have HN2 : Hid (∀ i, i < k + 1 → ¬ (j : Int) < 2 * (xs.count (xs.getD i 0) : Int)) := hno2
            clear hno2
            generalize xs.count v = c at *
            go_wp2
            go_roundw
            case rel => exact ⟨k + 1, _, by omega, by go_num, rfl, HN2.out⟩
            case measure => simp [intOf]; omega
    · obtain rfl : k = len := by omega
      have hm : maj xs = 0 := maj_of_none xs (fun v hv => by
        obtain ⟨i, hi, rfl⟩ := List.getElem_of_mem hv
        have := HN.out i (by omega)
        rw [List.getD_eq_getElem?_getD, List.getElem?_eq_getElem hi] at this
        simp only [Option.getD_some] at this
        omega)
      have HM : Hid (maj xs = 0) := hm
      clear hm
      go_wp2
      go_ret
      exact ⟨ret_int (by rw [HM.out]), _, rfl⟩

end Go.Proofs.Ybulkrzw
