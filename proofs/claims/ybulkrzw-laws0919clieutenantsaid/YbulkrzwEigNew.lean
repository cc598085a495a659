import Derived.Test.YbulkrzwDecide
namespace Go.Proofs.Ybulkrzw
open Go.RowKit
set_option linter.unusedVariables false

theorem TreeIn.alloc {B : Nat} {w : World} {t lv n d : Nat} {la ia : Value} {lb : Nat → Nat} {vs : Nat → List Int} {m : Nat} (h : TreeIn B w t lv n d la ia lb vs m) (o : Obj) : TreeIn B (w.alloc o) t lv n d la ia lb vs m :=
  h.kept (fun g hg _ => heap_past _ _ _ hg)
theorem TreeIn.lower {B B' : Nat} {w : World} {t lv n d : Nat} {la ia : Value} {lb : Nat → Nat} {vs : Nat → List Int} {m : Nat} (h : TreeIn B w t lv n d la ia lb vs m) (hB : B' ≤ B) : TreeIn B' w t lv n d la ia lb vs m :=
  ⟨h.top, h.row, h.lev, h.inj, Nat.le_trans hB h.bt, Nat.le_trans hB h.bl, fun k hk => Nat.le_trans hB (h.bb k hk)⟩

/-- A new process's tree: zeros, but for the input at the root. -/
def vs0 (n : Nat) (a : Int) : Nat → List Int := upd (fun k => List.replicate (fall n k) 0) 0 [a]
theorem vs0_length (n : Nat) (a : Int) (k : Nat) : (vs0 n a k).length = fall n k := by
  unfold vs0
  by_cases e : k = 0
  · subst e; rw [upd_at]; rfl
  · rw [upd_ne _ _ _ e]; simp

/-- What eig.New leaves. -/
def EigMade (n d : Nat) (a : Int) (w : World) (e : Ending) (w' : World) : Prop :=
  ∃ p t lv la ia lb hv, e = .returned (.pointer (some ⟨p, 0, none⟩)) ∧ TreeIn w.heap.size w' t lv n d la ia lb (vs0 n a) (d + 1) ∧
      w'.heap[p]? = some (.cells (procCells n d t hv (d == 0) (if d = 0 then a else 0)) 44 (0, 0)) ∧ w.heap.size ≤ p ∧ Below w.heap.size w w'

set_option maxHeartbeats 1000000 in
set_option maxRecDepth 100000 in
theorem eigNew_any (n d : Nat) (a : Int) (w : World) (hn : n ≤ 6) (hd : d ≤ n) :
    Calls Yba.prog 13 #[.int .i64 n, .int .i64 d, .int .i64 a] w (EigMade n d a w) := by
  have mk42 := fun W => make_small info4 Yba.underlying42 (by decide) rfl (n : Int) (n : Int) n n rfl rfl (Nat.le_refl _) (by omega) W
  obtain ⟨L2, hL2⟩ : ∃ L0, L0 = (List.replicate n (Value.bool false)).toArray := ⟨_, rfl⟩
  rw [← hL2] at mk42
  clear hL2
  go_enter Yba.func13, Yba.ntmps13
  go_wp2_with fail
  go_cut [7] (fun s wr => ∃ (p t lv : Nat) (la ia : Value) (lb : Nat → Nat) (hv : Value), s = .pointer (some ⟨p, 0, none⟩) ∧ TreeIn w.heap.size wr t lv n d la ia lb (fun k => List.replicate (fall n k) 0) (d + 1) ∧ wr.heap[p]? = some (.cells (procCells n d t hv false 0) 44 (0, 0)) ∧ w.heap.size ≤ p ∧ Below w.heap.size w wr)
  case first =>
    go_region_with (go_at_call 26; refine (treeNew_any n d _ hn hd).mono ?_; rintro e w2 ⟨t, lv, la, ia, lb, rfl, hT, hb⟩)
    all_goals go_wp2_with fail
    all_goals go_meet
    · case rel =>
        have hsz : w.heap.size ≤ w2.heap.size := by simpa using hb.size
        refine ⟨_, t, lv, la, ia, lb, _, rfl, ((hT.lower (by simp)).alloc _).alloc _, heap_at _ _ _ (by simp), by omega, ?_⟩
        exact (((Below.refl _ w).drew.trans hb).alloc hsz _).alloc (by simp; omega) _
    · case rel =>
        have hsz : w.heap.size + 1 ≤ w2.heap.size := by simpa using hb.size
        refine ⟨_, t, lv, la, ia, lb, _, rfl, (hT.lower (by simp)).alloc _, heap_at _ _ _ rfl, by omega, ?_⟩
        exact ((((Below.refl _ w).alloc (Nat.le_refl _) _).drew).trans (hb.mono (by simp))).alloc (by omega) _
  case rest =>
    obtain ⟨p, t, lv, la, ia, lb, hv, rfl, hT, hp, bp, bw⟩ := hcut
    have q2 : wc.cell? ⟨p, 2, none⟩ = some (.pointer (some ⟨t, 0, none⟩)) := by rw [cell_of_row _ _ _ _ _ _ hp]; rfl
    have hlev := level_any hT (Nat.le_refl _) (by omega) 0 0 rfl (by omega)
    simp only [fall, List.length_replicate] at hlev
    have hcc := hT.cells.2.2.2.1 0 (by omega) 0 (by simp [fall])
    have hff := hT.cells.2.2.2.2 0 (by omega) 0
    generalize (List.replicate (fall n 0) (0 : Int)).getD 0 0 = old at hcc
    have hst : TreeIn w.heap.size (wc.setCell ⟨lb 0, 0, none⟩ (.int .i64 a)) t lv n d la ia lb (vs0 n a) (d + 1) := hT.store (k := 0) (j := 0) (by omega) a
    have hap := (hT.apart hp (by decide) (by decide) (by decide)).2.2 0 (by omega)
    have hp4 : (wc.setCell ⟨lb 0, 0, none⟩ (.int .i64 a)).heap[p]? = some (.cells (procCells n d t hv false 0) 44 (0, 0)) := by rw [Below.heap_setCell _ _ _ _ hap]; exact hp
    have b4 : Below w.heap.size w (wc.setCell ⟨lb 0, 0, none⟩ (.int .i64 a)) := bw.setCell (hT.bb 0 (by omega)) _
    clear hT hp hap
    by_cases hd0 : d = 0
    · subst hd0
      have hdec := decide_any p hv false 0 hst (fun k _ => vs0_length n a k) hp4 hn hd
      go_wp2_with (first | (go_at_call 15; refine hlev.mono ?_; rintro e w2 ⟨rfl, hw2⟩; have hw3 := hw2.symm; subst hw3; clear hw2) | (go_at_call 18; refine hdec.mono ?_; rintro e w3 ⟨rfl, hT3, hp3, kb3⟩))
      go_ret
      refine ⟨p, t, lv, la, ia, lb, hv, rfl, hT3.congr (fun k hk => ?_), ?_, bp, ?_⟩
      · rw [show k = 0 from by omega, res_leaf]
      · rw [hp3, res_leaf]; rfl
      · refine b4.trans (kb3.below b4.size (fun g hg => ?_))
        rcases hg with rfl | ⟨k, hk, rfl⟩
        · exact bp
        · exact hst.bb k hk
    · have hd1 : ((d : Int) == 0) = false := by simp [hd0]
      go_wp2_with (first | (go_at_call 15; refine hlev.mono ?_; rintro e w2 ⟨rfl, hw2⟩; have hw3 := hw2.symm; subst hw3; clear hw2))
      go_ret
      refine ⟨p, t, lv, la, ia, lb, hv, rfl, hst, ?_, bp, b4⟩
      rw [hp4, if_neg hd0]
      have e : (d == 0) = false := by simp [hd0]
      rw [e]

set_option maxHeartbeats 400000 in
set_option maxRecDepth 100000 in
theorem decision_any (p n d t : Nat) (hv : Value) (dec : Bool) (val : Int) (w : World) (hp : w.heap[p]? = some (.cells (procCells n d t hv dec val) 44 (0, 0))) :
    Calls Yba.prog 14 #[.pointer (some ⟨p, 0, none⟩)] w fun e w' => e = .returned (.tuple #[.int .i64 val, .bool dec]) ∧ ∃ q, w' = w.drewN q := by
  have q4 : w.cell? ⟨p, 4, none⟩ = some (.bool dec) := by rw [cell_of_row _ _ _ _ _ _ hp]; rfl
  have q5 : w.cell? ⟨p, 5, none⟩ = some (.int .i64 val) := by rw [cell_of_row _ _ _ _ _ _ hp]; rfl
  clear hp
  go_enter Yba.func14, Yba.ntmps14
  go_wp2_with fail
  go_quiet (fail)
  go_wp2
  go_ret2
  exact ⟨rfl, _, rfl⟩

end Go.Proofs.Ybulkrzw
