import Derived.Test.YbulkrzwTree
namespace Go.Proofs.Ybulkrzw
open Go.RowKit
set_option linter.unusedVariables false

/-- One step of the pairing off: the candidate and its lead. -/
def bmStep (s : Int × Int) (v : Int) : Int × Int := if s.2 = 0 then (v, 1) else if v = s.1 then (s.1, s.2 + 1) else (s.1, s.2 - 1)
def bm (xs : List Int) : Int × Int := xs.foldl bmStep (0, 0)
/-- What relaytree.Majority computes. -/
def maj (xs : List Int) : Int := if (xs.length : Int) < 2 * (xs.count (bm xs).1 : Int) then (bm xs).1 else 0

theorem bm_snoc (xs : List Int) (v : Int) : bm (xs ++ [v]) = bmStep (bm xs) v := by simp [bm]

theorem bm_lead (xs : List Int) : 0 ≤ (bm xs).2 ∧ (bm xs).2 ≤ xs.length := by
  suffices h : ∀ (xs : List Int) (s : Int × Int), 0 ≤ s.2 → 0 ≤ (xs.foldl bmStep s).2 ∧ (xs.foldl bmStep s).2 ≤ s.2 + xs.length by
    have := h xs (0, 0) (by simp)
    simpa [bm] using this
  intro xs
  induction xs with
  | nil => intro s hs; simp; exact hs
  | cons v xs ih =>
    intro s hs
    have h1 : 0 ≤ (bmStep s v).2 ∧ (bmStep s v).2 ≤ s.2 + 1 := by
      unfold bmStep
      split
      · simp; omega
      · split <;> simp <;> omega
    have := ih (bmStep s v) h1.1
    simp only [List.foldl_cons, List.length_cons]
    omega

theorem take_snoc (xs : List Int) (k : Nat) (h : k < xs.length) : xs.take (k + 1) = xs.take k ++ [xs.getD k 0] := by
  rw [List.take_succ_eq_append_getElem h]
  simp [h]

theorem count_le (xs : List Int) (c : Int) (k : Nat) : (xs.take k).count c ≤ k := Nat.le_trans List.count_le_length (List.length_take_le _ _)

theorem ret_int {k : IntKind} {a b : Int} (h : a = b) : Ending.returned (.int k a) = .returned (.int k b) := by rw [h]

set_option maxHeartbeats 1000000 in
set_option maxRecDepth 100000 in
theorem majority_any (g o len cap : Nat) (xs : List Int) (w : World) (hl : xs.length = len) (hlen : len ≤ 1000) (hc : ∀ j, j < len → w.cell? ⟨g, o + j, none⟩ = some (.int .i64 (xs.getD j 0))) :
    Calls Yba.prog 27 #[.slice (some ⟨g, o, none⟩) len cap] w fun e w' => e = .returned (.int .i64 (maj xs)) ∧ w' = w := by
  have CC : Hid (∀ j, j < len → w.cell? ⟨g, o + j, none⟩ = some (.int .i64 (xs.getD j 0))) := hc
  clear hc
  go_enter Yba.func27, Yba.ntmps27
  go_wp2_with fail
  go_loop [3, 4, 12] (fun c l i => ∃ k : Nat, k ≤ len ∧ i = .int .i64 k ∧ c = .int .i64 (bm (xs.take k)).1 ∧ l = .int .i64 (bm (xs.take k)).2) (fun _ _ i => len - (intOf i).toNat)
  case atStart => exact ⟨0, Nat.zero_le _, rfl, rfl, rfl⟩
  case round =>
    obtain ⟨k, hk, rfl, rfl, rfl⟩ := hrel
    have hb := bm_lead (xs.take k)
    have hbl : (xs.take k).length ≤ k := List.length_take_le _ _
    by_cases hlt : k < len
    · have hck := CC.out k hlt
      have hs : bm (xs.take (k + 1)) = bmStep (bm (xs.take k)) (xs.getD k 0) := by rw [take_snoc xs k (by omega), bm_snoc]
      generalize xs.getD k 0 = v at hck hs
      have HS : Hid (bm (xs.take (k + 1)) = bmStep (bm (xs.take k)) v) := hs
      clear hs
      generalize bm (xs.take k) = s at *
      obtain ⟨c, l⟩ := s
      simp only at hb
      by_cases hl0 : l = 0
      · have t0 : (l == 0) = true := by simp [hl0]
        go_wp2
        go_round
        case rel => exact ⟨k + 1, by omega, by go_num, by rw [HS.out]; simp [bmStep, hl0], by rw [HS.out]; simp [bmStep, hl0]⟩
        case measure => simp [intOf]; omega
      · have t0 : (l == 0) = false := by simp [hl0]
        by_cases hvc : v = c
        · have t1 : (v == c) = true := by simp [hvc]
          have hrel : bmStep (c, l) v = (c, l + 1) := by simp [bmStep, hl0, hvc]
          have HR : Hid (bmStep (c, l) v = (c, l + 1)) := hrel
          clear hrel hvc hl0
          go_wp2
          go_round
          case rel => exact ⟨k + 1, by omega, by go_num, by rw [HS.out, HR.out], by rw [HS.out, HR.out]⟩
          case measure => simp [intOf]; omega
        · have t1 : (v == c) = false := by simp [hvc]
          have hrel : bmStep (c, l) v = (c, l - 1) := by simp [bmStep, hl0, hvc]
          have HR : Hid (bmStep (c, l) v = (c, l - 1)) := hrel
          clear hrel
          go_wp2
          go_round
          case rel => exact ⟨k + 1, by omega, by go_num, by rw [HS.out, HR.out], by rw [HS.out, HR.out]⟩
          case measure => simp [intOf]; omega
    · obtain rfl : k = len := by omega
      have hfull : xs.take k = xs := List.take_of_length_le (by omega)
      rw [hfull]
      clear hfull hb
      obtain ⟨c, hcd⟩ : ∃ c, (bm xs).1 = c := ⟨_, rfl⟩
      obtain ⟨l, hld⟩ : ∃ l, (bm xs).2 = l := ⟨_, rfl⟩
      rw [hcd, hld]
      have HC : Hid ((bm xs).1 = c) := hcd
      clear hcd hld
      go_wp2_with fail
      go_loop [7, 29] (fun q i => ∃ j : Nat, j ≤ k ∧ i = .int .i64 j ∧ q = .int .i64 ((xs.take j).count c : Nat)) (fun _ i => k - (intOf i).toNat)
      case atStart => exact ⟨0, Nat.zero_le _, rfl, rfl⟩
      case round =>
        obtain ⟨j, hj, rfl, rfl⟩ := hrel
        have hcl := count_le xs c j
        by_cases hlt2 : j < k
        · have hck := CC.out j hlt2
          have hs : (xs.take (j + 1)).count c = (xs.take j).count c + (if xs.getD j 0 = c then 1 else 0) := by
            rw [take_snoc xs j (by omega), List.count_append]
            congr 1
            simp only [List.count_cons, List.count_nil, beq_iff_eq, Nat.zero_add]
          generalize xs.getD j 0 = v at hck hs
          have HS : Hid ((xs.take (j + 1)).count c = (xs.take j).count c + (if v = c then 1 else 0)) := hs
          clear hs
          generalize (xs.take j).count c = q at *
          by_cases hvc : v = c
          · have t1 : (v == c) = true := by simp [hvc]
            have hq : (xs.take (j + 1)).count c = q + 1 := by rw [HS.out, if_pos hvc]
            have HQ : Hid ((xs.take (j + 1)).count c = q + 1) := hq
            clear hq hvc
            go_wp2
            go_round
            case rel => exact ⟨j + 1, by omega, by go_num, by rw [HQ.out]; go_num⟩
            case measure => simp [intOf]; omega
          · have t1 : (v == c) = false := by simp [hvc]
            have hq : (xs.take (j + 1)).count c = q := by rw [HS.out, if_neg hvc]; rfl
            have HQ : Hid ((xs.take (j + 1)).count c = q) := hq
            clear hq
            go_wp2
            go_round
            case rel => exact ⟨j + 1, by omega, by go_num, by rw [HQ.out]⟩
            case measure => simp [intOf]; omega
        · obtain rfl : j = k := by omega
          have hfull : xs.take j = xs := List.take_of_length_le (by omega)
          rw [hfull] at hcl ⊢
          clear hfull
          have hmaj : maj xs = if (j : Int) < 2 * (xs.count c : Int) then c else 0 := by unfold maj; rw [HC.out, hl]
          have HM : Hid (maj xs = if (j : Int) < 2 * (xs.count c : Int) then c else 0) := hmaj
          clear hmaj
          generalize xs.count c = q at *
          by_cases hgt : (j : Int) < 2 * (q : Int)
          · go_wp2
            go_ret
            exact ⟨ret_int (by rw [HM.out, if_pos hgt]), rfl⟩
          · go_wp2
            go_ret
            exact ⟨ret_int (by rw [HM.out, if_neg (by omega)]), rfl⟩

end Go.Proofs.Ybulkrzw
