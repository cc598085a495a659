import Derived.Test.YbulkrzwEigNew
import Derived.OpenShut
namespace Go.Proofs.Ybulkrzw
open Go.RowKit
set_option linter.unusedVariables false

theorem bm_rep (m : Nat) (v : Int) : bm (List.replicate (m + 1) v) = (v, (m : Int) + 1) := by
  induction m with
  | zero => simp [bm, bmStep]
  | succ m ih =>
    rw [List.replicate_succ', bm_snoc, ih]
    have h : ¬ ((m : Int) + 1 = 0) := by omega
    simp [bmStep, h]

theorem maj_rep (m : Nat) (v : Int) (hm : 1 ≤ m) : maj (List.replicate m v) = v := by
  obtain ⟨j, rfl⟩ : ∃ j, m = j + 1 := ⟨m - 1, by omega⟩
  unfold maj
  rw [bm_rep]
  simp only [List.count_replicate_self, List.length_replicate]
  rw [if_pos (by omega)]

theorem resLevel_rep (n k : Nat) (v : Int) (hk : k < n) : resLevel n k (List.replicate (fall n (k + 1)) v) (fall n k) = List.replicate (fall n k) v := by
  unfold resLevel
  rw [List.eq_replicate_iff]
  refine ⟨by simp, ?_⟩
  intro b hb
  obtain ⟨j, hj, rfl⟩ := List.mem_map.1 hb
  rw [List.mem_range] at hj
  have hm : (j + 1) * (n - k) ≤ fall n k * (n - k) := Nat.mul_le_mul_right _ (by omega)
  have h2 : (j + 1) * (n - k) = j * (n - k) + (n - k) := by rw [Nat.add_mul, Nat.one_mul]
  have hf : fall n (k + 1) = fall n k * (n - k) := rfl
  rw [List.drop_replicate, List.take_replicate]
  exact maj_rep _ _ (by omega)

theorem res_uniform (n d : Nat) (vs : Nat → List Int) (v : Int) (hd : d ≤ n) (hl : vs d = List.replicate (fall n d) v) : ∀ r, r ≤ d → res n d vs (d - r) = List.replicate (fall n (d - r)) v := by
  intro r
  induction r with
  | zero => intro _; rw [Nat.sub_zero, res_leaf, hl]
  | succ r ih =>
    intro hr
    rw [res_step n d vs (d - (r + 1)) (by omega), show d - (r + 1) + 1 = d - r from by omega, ih (by omega)]
    have := resLevel_rep n (d - (r + 1)) v (by omega)
    rw [show d - (r + 1) + 1 = d - r from by omega] at this
    exact this

theorem res_root (n d : Nat) (vs : Nat → List Int) (v : Int) (hd : d ≤ n) (hl : vs d = List.replicate (fall n d) v) : (res n d vs 0).getD 0 0 = v := by
  have := res_uniform n d vs v hd hl d (Nat.le_refl _)
  rw [Nat.sub_self] at this
  rw [this]
  simp [fall]

/-- The leaves while they are being laid. -/
def laid (n d : Nat) (v : Int) (i : Nat) : List Int := List.replicate i v ++ List.replicate (fall n d - i) 0
theorem laid_set (n d : Nat) (v : Int) (i : Nat) (hi : i < fall n d) : (laid n d v i).set i v = laid n d v (i + 1) := by
  unfold laid
  rw [List.set_append_right (i := i) _ (by simp)]
  obtain ⟨r, hr⟩ : ∃ r, fall n d - i = r + 1 := ⟨fall n d - i - 1, by omega⟩
  rw [hr, List.length_replicate, Nat.sub_self, List.replicate_succ, List.set_cons_zero, show fall n d - (i + 1) = r from by omega, List.replicate_succ', List.append_assoc]
  rfl
theorem laid_length (n d : Nat) (v : Int) (i : Nat) (hi : i ≤ fall n d) : (laid n d v i).length = fall n d := by simp [laid]; omega

set_option maxHeartbeats 1000000 in
set_option maxRecDepth 100000 in
theorem uniform_walk (a0 a1 a2 a3 : Int) (w : World) (w0 : (Lit.int .u8 a0).wf = true) (w1 : (Lit.int .u8 a1).wf = true) (w2 : (Lit.int .i64 a2).wf = true) (w3 : (Lit.int .i64 a3).wf = true) :
    Calls Yba.prog 6 #[.int .u8 a0, .int .u8 a1, .int .i64 a2, .int .i64 a3] w fun e w' => e = .returned (.bool true) ∧ Below w.heap.size w w' := by
  have b0 := bounds_u8 w0
  have b1 := bounds_u8 w1
  obtain ⟨n, hn⟩ : ∃ n : Nat, a0 % 6 = (n : Int) := ⟨(a0 % 6).toNat, by omega⟩
  obtain ⟨d, hd⟩ : ∃ d : Nat, a1 % ((n : Int) + 1) = (d : Int) := ⟨(a1 % ((n : Int) + 1)).toNat, by have := Int.emod_nonneg a1 (b := (n : Int) + 1) (by omega); omega⟩
  have hn6 : n ≤ 5 := by omega
  have hdn : d ≤ n := by have := Int.emod_lt_of_pos a1 (b := (n : Int) + 1) (by omega); omega
  by_cases hd0 : d = 0
  · subst hd0
    go_enter Yba.func6, Yba.ntmps6
    go_wp2
    go_ret
    exact ⟨rfl, Below.refl _ _⟩
  have hd1 : ((d : Int) == 0) = false := by simp [hd0]
  go_enter Yba.func6, Yba.ntmps6
  go_wp2_with fail
  refine (eigNew_any n d a2 w (by omega) hdn).mono ?_
  rintro e wc ⟨p, t, lv, la, ia, lb, hv, rfl, hT, hp, bp, bw⟩
  have q2 : wc.cell? ⟨p, 2, none⟩ = some (.pointer (some ⟨t, 0, none⟩)) := by rw [cell_of_row _ _ _ _ _ _ hp]; rfl
  have hlev := level_any hT (Nat.le_refl _) (by omega) (d : Int) d rfl (by omega)
  rw [vs0_length] at hlev
  have hfl := fall_le n d (by omega) (by omega)
  have hT2 : TreeIn w.heap.size wc t lv n d la ia lb (upd (vs0 n a2) d (laid n d a3 0)) (d + 1) := hT.congr (fun k hk => by
    by_cases e : k = d
    · subst e; rw [upd_at]; unfold vs0; rw [upd_ne _ _ _ hd0]; simp [laid]
    · rw [upd_ne _ _ _ e])
  clear hT
  go_wp2_with (go_at_call 15; refine hlev.mono ?_; rintro e w2 ⟨rfl, hw2⟩; have hw3 := hw2.symm; subst hw3; clear hw2)
  clear hlev q2
  go_loopw [38] (fun c wq => ∃ i : Nat, i ≤ fall n d ∧ c = .int .i64 i ∧ TreeIn w.heap.size wq t lv n d la ia lb (upd (vs0 n a2) d (laid n d a3 i)) (d + 1) ∧ wq.heap[p]? = some (.cells (procCells n d t hv (d == 0) (if d = 0 then a2 else 0)) 44 (0, 0)) ∧ Below w.heap.size w wq) (fun c _ => fall n d - (intOf c).toNat)
  case atStart => exact ⟨0, Nat.zero_le _, rfl, hT2, hp, bw⟩
  case round =>
    obtain ⟨i, hi, rfl, hT3, hp3, b3⟩ := hrel
    clear hT2 hp bw
    by_cases hlt : i < fall n d
    · have hst := hT3.store (k := d) (j := i) (by omega) a3
      rw [upd_at, laid_set n d a3 i hlt] at hst
      have hst2 := hst.congr (vs' := upd (vs0 n a2) d (laid n d a3 (i + 1))) (fun x hx => by
        by_cases e : x = d
        · subst e; rw [upd_at, upd_at]
        · rw [upd_ne _ _ _ e, upd_ne _ _ _ e, upd_ne _ _ _ e])
      have hcc := hT3.cells.2.2.2.1 d (by omega) i (by rw [upd_at, laid_length n d a3 i hi]; exact hlt)
      have hff := hT3.cells.2.2.2.2 d (by omega) i
      have hap := (hT3.apart hp3 (by decide) (by decide) (by decide)).2.2 d (by omega)
      have hp4 : (wr.setCell ⟨lb d, i, none⟩ (.int .i64 a3)).heap[p]? = some (.cells (procCells n d t hv (d == 0) (if d = 0 then a2 else 0)) 44 (0, 0)) := by rw [Below.heap_setCell _ _ _ _ hap]; exact hp3
      have b4 : Below w.heap.size w (wr.setCell ⟨lb d, i, none⟩ (.int .i64 a3)) := b3.setCell (hT3.bb d (by omega)) _
      clear hst hT3 hp3 b3 hap
      generalize (upd (vs0 n a2) d (laid n d a3 i) d).getD i 0 = old at hcc
      go_wp2_with fail
      go_roundw
      case rel => exact ⟨i + 1, by omega, by go_num, hst2, hp4, b4⟩
      case measure => simp [intOf]; omega
    · obtain rfl : i = fall n d := by omega
      have hlen : ∀ k, k ≤ d → (upd (vs0 n a2) d (laid n d a3 (fall n d)) k).length = fall n k := by
        intro k hk
        by_cases e : k = d
        · subst e; rw [upd_at, laid_length _ _ _ _ (Nat.le_refl _)]
        · rw [upd_ne _ _ _ e, vs0_length]
      have hroot := res_root n d (upd (vs0 n a2) d (laid n d a3 (fall n d))) a3 hdn (by rw [upd_at]; simp [laid])
      have hdec := decide_any p hv _ _ hT3 hlen hp3 (by omega) hdn
      rw [hroot] at hdec
      have hbb := hT3.bb
      clear hT3 hp3 hlen hroot
      go_wp2_with fail
      refine hdec.mono ?_
      rintro e w5 ⟨rfl, hT5, hp5, kb5⟩
      have hds := decision_any p n d t hv true a3 w5 hp5
      have b5 : Below w.heap.size w w5 := b3.trans (kb5.below b3.size (fun g hg => by
        rcases hg with rfl | ⟨k, hk, rfl⟩
        · exact bp
        · exact hbb k hk))
      clear hdec hT5 hp5 kb5 hbb
      go_wp2_with fail
      refine hds.mono ?_
      rintro e w6 ⟨rfl, q, rfl⟩
      clear hds
      go_wp2
      go_ret
      exact ⟨rfl, ⟨b5.os, b5.tape, b5.output, b5.size, b5.block⟩⟩

end Go.Proofs.Ybulkrzw
