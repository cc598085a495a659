import Derived.Test.YbulkrzwOralSend
namespace Go.Proofs.Ybulkrzw
open Go.RowKit
set_option linter.unusedVariables false

/-- The tree behind the commander's value. -/
def vsR (N : Nat) (root : Int) : Nat → List Int := upd (fun k => List.replicate (fall N k) 0) 0 [root]
theorem vsR_at (N : Nat) (root : Int) (k i : Nat) (hi : i < fall N k) : (vsR N root k).getD i 0 = if k = 0 then root else 0 := by
  unfold vsR
  by_cases e : k = 0
  · subst e; rw [upd_at, if_pos rfl]
    have : i = 0 := by simp [fall] at hi; omega
    subst this; rfl
  · rw [upd_ne _ _ _ e, if_neg e]
    simp [List.getD, hi]

set_option maxHeartbeats 2000000 in
set_option maxRecDepth 100000 in
theorem lieut_walk (a0 a1 a2 a3 a4 a5 : Int) (w : World) (w0 : (Lit.int .u8 a0).wf = true) (w1 : (Lit.int .u8 a1).wf = true) (w2 : (Lit.int .u8 a2).wf = true) (w3 : (Lit.int .u8 a3).wf = true) (w4 : (Lit.int .i64 a4).wf = true) (w5 : (Lit.int .i64 a5).wf = true) :
    Calls Yba.prog 8 #[.int .u8 a0, .int .u8 a1, .int .u8 a2, .int .u8 a3, .int .i64 a4, .int .i64 a5] w fun e w' => e = .returned (.bool true) ∧ Below w.heap.size w w' := by
  have b0 := bounds_u8 w0
  have b1 := bounds_u8 w1
  have b2 := bounds_u8 w2
  have b3 := bounds_u8 w3
  have b5 := bounds_i64 w5
  obtain ⟨n, hn⟩ : ∃ n : Nat, 2 + a0 % 7 = (n : Int) := ⟨(2 + a0 % 7).toNat, by omega⟩
  obtain ⟨m, hm⟩ : ∃ n : Nat, a1 % 8 = (n : Int) := ⟨(a1 % 8).toNat, by omega⟩
  have hn2 : 2 ≤ n ∧ n ≤ 8 := by omega
  have hm7 : m ≤ 7 := by omega
  obtain ⟨c, hc⟩ : ∃ d : Nat, a2 % (n : Int) = (d : Int) := ⟨(a2 % (n : Int)).toNat, by have := Int.emod_nonneg a2 (b := (n : Int)) (by omega); omega⟩
  obtain ⟨s0, hs0⟩ : ∃ d : Nat, a3 % (n : Int) = (d : Int) := ⟨(a3 % (n : Int)).toNat, by have := Int.emod_nonneg a3 (b := (n : Int)) (by omega); omega⟩
  have hcn : c < n := by have := Int.emod_lt_of_pos a2 (b := (n : Int)) (by omega); omega
  have hsn : s0 < n := by have := Int.emod_lt_of_pos a3 (b := (n : Int)) (by omega); omega
  have nl : ∀ (W : World) (x : Option Addr) (l c : Nat), (binOp .eql 40 (.slice x l c) (.slice none 0 0)).run Yba.prog W = .ok (.bool x.isNone) W := fun W x l c => Lib.run_eql_slice_nil W _ _ x l c 0 0 Yba.underlying40
  obtain ⟨N, hN⟩ : ∃ N, N = n - 2 := ⟨_, rfl⟩
  obtain ⟨D, hD⟩ : ∃ D, D = min m (n - 2) := ⟨_, rfl⟩
  have hND : D ≤ N := by omega
  have hN6 : N ≤ 6 := by omega
  have eN : (n : Int) - 2 = (N : Int) := by omega
  have HN : Hid (N = n - 2) := hN
  have HD : Hid (D = min m (n - 2)) := hD
  clear hN hD
  go_enter Yba.func8, Yba.ntmps8
  go_upto_if 46 with fail
  go_cut [16] (fun x wr => ∃ s : Nat, s < n ∧ s ≠ c ∧ x = .int .i64 s ∧ wr = w)
  case first =>
    by_cases hsc : s0 = c
    · subst hsc
      have t1 : ((s0 : Int) == (s0 : Int)) = true := by simp
      obtain ⟨s1, hs1⟩ : ∃ s1 : Nat, ((s0 : Int) + 1) % (n : Int) = (s1 : Int) := ⟨(((s0 : Int) + 1) % (n : Int)).toNat, by have := Int.emod_nonneg ((s0 : Int) + 1) (b := (n : Int)) (by omega); omega⟩
      have hs1n : s1 < n ∧ s1 ≠ s0 := by
        by_cases e : s0 + 1 = n
        · have h1 : ((s0 : Int) + 1) % (n : Int) = 0 := by rw [show (s0 : Int) + 1 = (n : Int) from by omega]; exact Int.emod_self
          omega
        · have h1 : ((s0 : Int) + 1) % (n : Int) = (s0 : Int) + 1 := Int.emod_eq_of_lt (by omega) (by omega)
          omega
      go_wp2_with fail
      go_meet
      case rel => exact ⟨s1, hs1n.1, hs1n.2, by rw [hs1], rfl⟩
    · have t1 : ((s0 : Int) == (c : Int)) = false := by rw [beq_eq_false_iff_ne]; omega
      go_wp2_with fail
      go_meet
      case rel => exact ⟨s0, hsn, hsc, by rw [hs0], rfl⟩
  case rest =>
    obtain ⟨s, hsn2, hsc, rfl, hwc⟩ := hcut
    have hwc' := hwc.symm; subst hwc'; clear hwc
    go_wp2_with fail
    refine (newLieutenant_any n m c s N D _ hn2.1 hn2.2 (by omega) (by omega) (by omega) hsc HN.out HD.out).mono ?_
    rintro e wa ⟨p, hb, t, lv, la, ia, lb, rfl, hO, hh, hhB, ba⟩
    have hbz := lt_of_heap hh
    have hO1 := hO.later ((Below.refl wa.heap.size wa).alloc (Nat.le_refl _) (.cells #[.int .i64 a4] 2))
    have hrc := receive_any hO1 (by have := ba.size; simp; omega) (by rw [heap_past _ _ _ hbz]; exact hh) hhB hcn hn2.2 hsc (by omega) wa.heap.size a4 (by rw [World.cell?_alloc_at _ _ _ _ rfl]; rfl) (by omega)
    have ba2 := ba.alloc ba.size (.cells #[.int .i64 a4] 2)
    clear hO hO1 hh ba
    go_wp2_with fail
    refine hrc.mono ?_
    rintro e w6 ⟨rfl, hO6, b6⟩
    have b7 := ba2.trans b6
    clear hrc ba2 b6
    have hO7 : OralIn w.heap.size w6 p hb t lv n m c s N D la ia lb (vsR N a4) := hO6
    clear hO6
    go_upto_if 65 with fail
    go_cut [18] (fun x wr => x = .int .i64 D ∧ wr = w6)
    case first =>
      by_cases hNm : (N : Int) < (m : Int)
      · have hDN : D = N := by have h1 := HN.out; have h2 := HD.out; omega
        have HDN : Hid (D = N) := hDN
        clear hDN
        go_wp2_with fail
        go_meet
        case rel => exact ⟨by rw [HDN.out], rfl⟩
      · have hDN : D = m := by have h1 := HN.out; have h2 := HD.out; omega
        have HDN : Hid (D = m) := hDN
        clear hDN
        go_wp2_with fail
        go_meet
        case rel => exact ⟨by rw [HDN.out], rfl⟩
    case rest =>
      obtain ⟨rfl, hwc6⟩ := hcut
      have hwc6' := hwc6.symm; subst hwc6'; clear hwc6
      by_cases hr : 2 ≤ a5 ∧ a5 ≤ (D : Int) + 1
      · obtain ⟨k, rfl⟩ : ∃ k : Nat, a5 = (k : Int) + 2 := ⟨(a5 - 2).toNat, by omega⟩
        have hkD : k < D := by omega
        have hsd := send_yes hO7 (by omega) hN6 k hkD
        have t1 : decide (2 ≤ (k : Int) + 2) = true := by simp; omega
        have t2 : decide ((k : Int) + 2 ≤ (D : Int) + 1) = true := by simp; omega
        have e1 : (k : Int) + 2 - 2 = (k : Int) := by omega
        have hlk := hO7.len k (by omega)
        have hfk := fall_le N k (by omega) (by omega)
        have hf1 := fall_pos N k (by omega)
        go_wp2_with fail
        refine hsd.mono ?_
        rintro e w8 ⟨g, cap, cur, rfl, hg, htk, hcs, hlc, hcm, hge, b8⟩
        rw [hlk] at htk hlc ⊢
        have hcell : ∀ i, i < fall N k → w8.cell? ⟨g, i, none⟩ = some (.int .i64 (if k = 0 then a4 else 0)) := by
          intro i hi
          rw [cell_of_row _ _ _ _ _ _ hg, ← vsR_at N a4 k i hi]
          have e : cur[i]? = (cur.toList.take (fall N k))[i]? := by rw [List.getElem?_take, if_pos hi]; simp
          rw [e, htk, List.getElem?_map]
          have : i < (vsR N a4 k).length := by omega
          simp [this]
        have hfz : w8.frozen? ⟨g, 0, none⟩ = false := frozen_of_row _ _ _ _ _ hg
        have hO8 : OralIn w.heap.size w8 p hb t lv n m c s N D la ia lb (vsR N a4) := hO7.later b8
        clear hsd hg htk hcs
        have CC : Hid (∀ i, i < fall N k → w8.cell? ⟨g, i, none⟩ = some (.int .i64 (if k = 0 then a4 else 0))) := hcell
        clear hcell
        generalize hfst : (if k = 0 then a4 else 0) = fst at CC
        have HFS : Hid ((if k = 0 then a4 else 0) = fst) := hfst
        clear hfst
        have HLK : Hid ((vsR N a4 k).length = fall N k) := hlk
        clear hlk
        go_wp2_with fail
        go_loop [22, 23] (fun x y => ∃ i : Nat, i ≤ k ∧ y = .int .i64 i ∧ x = .int .i64 (fall N i : Nat)) (fun _ y => k - (intOf y).toNat)
        case atStart => exact ⟨0, Nat.zero_le _, rfl, rfl⟩
        case round =>
          obtain ⟨i, hi, rfl, rfl⟩ := hrel
          by_cases hlt : i < k
          · have hml : wrap64 ((fall N i : Int) * ((N : Int) - (i : Int))) = (fall N (i + 1) : Int) := by
              have e2 : (N : Int) - (i : Int) = ((N - i : Nat) : Int) := by omega
              have h1 := fall_le N (i + 1) (by omega) (by omega)
              rw [e2, ← Int.natCast_mul]
              exact IntWalk.wrap64_in _ ⟨by omega, by simp only [fall] at h1; omega⟩
            have HML : Hid (wrap64 ((fall N i : Int) * ((N : Int) - (i : Int))) = (fall N (i + 1) : Int)) := hml
            clear hml
            go_wp2_with fail
            go_round
            case rel => exact ⟨i + 1, by omega, by go_num, congrArg (Value.int .i64) HML.out⟩
            case measure => simp [intOf]; omega
          · obtain rfl : i = k := by omega
            go_wp2_with fail
            go_loop [24] (fun y => ∃ j : Nat, j ≤ fall N i ∧ y = .int .i64 j) (fun y => fall N i - (intOf y).toNat)
            case atStart => exact ⟨0, Nat.zero_le _, rfl⟩
            case round =>
              obtain ⟨j, hj, rfl⟩ := hrel
              by_cases hlt2 : j < fall N i
              · have hcj := CC.out j hlt2
                by_cases hi0 : i = 0
                · subst hi0
                  have hfst : a4 = fst := by have := HFS.out; simpa using this
                  subst hfst
                  go_wp2_with fail
                  go_round
                  case rel => exact ⟨j + 1, by omega, by go_num⟩
                  case measure => simp [intOf]; omega
                · have hfst : 0 = fst := by have := HFS.out; simpa [hi0] using this
                  subst hfst
                  have ti : ((i : Int) == 0) = false := by simp [hi0]
                  go_wp2_with fail
                  go_round
                  case rel => exact ⟨j + 1, by omega, by go_num⟩
                  case measure => simp [intOf]; omega
              · have hc0 := CC.out 0 (by omega)
                have tl : ((fall N i : Int) == 0) = false := by rw [beq_eq_false_iff_ne]; omega
                have hs2 : ∀ x : Int, Calls Yba.prog 21 #[.pointer (some ⟨p, 0, none⟩), .int .i64 ((i : Int) + 2)] (w8.setCell ⟨g, 0, none⟩ (.int .i64 x)) (SendMade (vsR N a4 i) (w8.setCell ⟨g, 0, none⟩ (.int .i64 x))) := fun x =>
                  send_yes (hO7.later (b8.setCell hge (.int .i64 x))) (by omega) hN6 i hkD
                have HS2 : Hid (∀ x : Int, Calls Yba.prog 21 #[.pointer (some ⟨p, 0, none⟩), .int .i64 ((i : Int) + 2)] (w8.setCell ⟨g, 0, none⟩ (.int .i64 x)) (SendMade (vsR N a4 i) (w8.setCell ⟨g, 0, none⟩ (.int .i64 x)))) := hs2
                clear hs2
                go_wp2_with fail
                refine (HS2.out _).mono ?_
                rintro e w9 ⟨g2, cap2, cur2, rfl, hg2, htk2, hcs2, hlc2, hcm2, hge2, b9⟩
                rw [HLK.out] at htk2 hlc2 ⊢
                have hc9 : w9.cell? ⟨g2, 0, none⟩ = some (.int .i64 fst) := by
                  rw [cell_of_row _ _ _ _ _ _ hg2, ← HFS.out, ← vsR_at N a4 i 0 (by omega)]
                  have e : cur2[0]? = (cur2.toList.take (fall N i))[0]? := by rw [List.getElem?_take, if_pos (by omega)]; simp
                  rw [e, htk2, List.getElem?_map]
                  have : 0 < (vsR N a4 i).length := by rw [HLK.out]; omega
                  simp [this]
                have b10 : Below w.heap.size w w9 := (b7.trans ((b8.setCell hge _).mono b7.size)).trans (b9.mono (by have h1 := b7.size; have h2 := b8.size; simp; omega))
                clear hg2 htk2 hcs2 hcm2
                go_wp2
                go_ret
                exact ⟨rfl, b10⟩
      · have hsd := send_no hO7 (by omega) a5 b5.1 b5.2 hr
        by_cases h2 : a5 < 2
        · have t1 : decide (2 ≤ a5) = false := by simp; omega
          go_wp2_with (go_at_call 21; refine hsd.mono ?_; rintro e w8 ⟨rfl, hw8⟩; have hw9 := hw8.symm; subst hw9; clear hw8)
          go_ret
          exact ⟨rfl, b7⟩
        · have t1 : decide (2 ≤ a5) = true := by simp; omega
          have t2 : decide (a5 ≤ (D : Int) + 1) = false := by simp; omega
          go_wp2_with (go_at_call 21; refine hsd.mono ?_; rintro e w8 ⟨rfl, hw8⟩; have hw9 := hw8.symm; subst hw9; clear hw8)
          go_ret
          exact ⟨rfl, b7⟩

end Go.Proofs.Ybulkrzw
