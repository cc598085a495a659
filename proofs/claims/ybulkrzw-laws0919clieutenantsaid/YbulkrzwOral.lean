import Derived.Test.YbulkrzwLevel
import Derived.Test.YbulkrzwSlices
import Derived.Test.YbulkrzwEigNew
import Derived.OpenShut
import Derived.WalkLawsBesides
namespace Go.Proofs.Ybulkrzw
open Go.RowKit
set_option linter.unusedVariables false

def oralCells (n m c s t : Nat) (hv : Value) (dec : Bool) (val : Int) : Array Value := #[.int .i64 n, .int .i64 m, .int .i64 c, .int .i64 s, .pointer (some ⟨t, 0, none⟩), hv, .bool dec, .int .i64 val]

set_option maxHeartbeats 400000 in
theorem depth_any (n m D : Nat) (w : World) (hn : 2 ≤ n) (hn8 : n ≤ 8) (hm : m ≤ 8) (hD : D = min m (n - 2)) : Calls Yba.prog 29 #[.int .i64 n, .int .i64 m] w fun e w' => e = .returned (.int .i64 D) ∧ w' = w := by
  have HD : Hid (D = min m (n - 2)) := hD
  clear hD
  go_enter Yba.func29, Yba.ntmps29
  go_wp2
  all_goals
    go_ret
    exact ⟨ret_int (by have := HD.out; omega), rfl⟩

set_option maxHeartbeats 400000 in
theorem treeDepth_any {B : Nat} {w : World} {t lv n d : Nat} {la ia : Value} {lb : Nat → Nat} {vs : Nat → List Int} {m : Nat} (h : TreeIn B w t lv n d la ia lb vs m) (hd : d ≤ 100) : Calls Yba.prog 30 #[.pointer (some ⟨t, 0, none⟩)] w fun e w' => e = .returned (.int .i64 d) ∧ w' = w := by
  obtain ⟨-, c1, -, -, -⟩ := h.cells
  go_enter Yba.func30, Yba.ntmps30
  go_wp2
  go_ret
  exact ⟨ret_int (by simp), rfl⟩

/-- A lieutenant in memory: its tree over the N = n - 2 others, of depth D. -/
structure OralIn (B : Nat) (w : World) (p hb t lv n m c s N D : Nat) (la ia : Value) (lb : Nat → Nat) (vs : Nat → List Int) : Prop where
  tree : TreeIn B w t lv N D la ia lb vs (D + 1)
  len : ∀ k, k ≤ D → (vs k).length = fall N k
  proc : w.heap[p]? = some (.cells (oralCells n m c s t (.slice (some ⟨hb, 0, none⟩) n n) false 0) 69 (0, 0))
  bp : B ≤ p

theorem OralIn.later {B : Nat} {w w' : World} {p hb t lv n m c s N D : Nat} {la ia : Value} {lb : Nat → Nat} {vs : Nat → List Int} (h : OralIn B w p hb t lv n m c s N D la ia lb vs) (e : Below w.heap.size w w') : OralIn B w' p hb t lv n m c s N D la ia lb vs :=
  ⟨h.tree.kept (fun g hg _ => e.block g hg), h.len, by rw [e.block p (lt_of_heap h.proc)]; exact h.proc, h.bp⟩

/-- What New leaves at a lieutenant. -/
def OralMade (n m c s N D : Nat) (w : World) (e : Ending) (w' : World) : Prop :=
  ∃ p hb t lv la ia lb, e = .returned (.pointer (some ⟨p, 0, none⟩)) ∧ OralIn w.heap.size w' p hb t lv n m c s N D la ia lb (fun k => List.replicate (fall N k) 0) ∧
    w'.heap[hb]? = some (.cells (List.replicate n (Value.bool false)).toArray 4 (0, 0)) ∧ w.heap.size ≤ hb ∧ Below w.heap.size w w'

set_option maxHeartbeats 1000000 in
set_option maxRecDepth 100000 in
theorem newLieutenant_any (n m c s N D : Nat) (w : World) (hn : 2 ≤ n) (hn8 : n ≤ 8) (hm : m ≤ 8) (hs : s < 8) (hc : c < 8) (hsc : s ≠ c) (hN : N = n - 2) (hD : D = min m (n - 2)) :
    Calls Yba.prog 20 #[.int .i64 n, .int .i64 m, .int .i64 c, .int .i64 s, .int .i64 0] w (OralMade n m c s N D w) := by
  have mk42 := fun W => make_small info4 Yba.underlying42 (by decide) rfl (n : Int) (n : Int) n n rfl rfl (Nat.le_refl _) (by omega) W
  obtain ⟨L2, hL2⟩ : ∃ L0, L0 = (List.replicate n (Value.bool false)).toArray := ⟨_, rfl⟩
  rw [← hL2] at mk42
  have HL2 : Hid (L2 = (List.replicate n (Value.bool false)).toArray) := hL2
  have hsc2 : ((s : Int) == (c : Int)) = false := by rw [beq_eq_false_iff_ne]; omega
  have hND : D ≤ N := by omega
  have hN6 : N ≤ 6 := by omega
  have eN : (n : Int) - 2 = (N : Int) := by omega
  have hdp := fun W => depth_any n m D W hn hn8 hm hD
  have HDP : Hid (∀ W, Calls Yba.prog 29 #[.int .i64 n, .int .i64 m] W fun e w' => e = .returned (.int .i64 D) ∧ w' = W) := hdp
  clear hL2 hdp hD hN hsc
  go_enter Yba.func20, Yba.ntmps20
  go_wp2_with (first | (go_at_call 29; refine (HDP.out _).mono ?_; rintro e w2 ⟨rfl, hw2⟩; have hw3 := hw2.symm; subst hw3; clear hw2) | fail)
  refine (treeNew_any N D _ hN6 hND).mono ?_
  rintro e w2 ⟨t, lv, la, ia, lb, rfl, hT, hb⟩
  have hsz : w.heap.size + 1 + 1 ≤ w2.heap.size := by simpa using hb.size
  have hp2 : w2.heap[w.heap.size + 1]? = some (.cells #[.int .i64 n, .int .i64 m, .int .i64 c, .int .i64 s, .pointer none, .slice (some ⟨w.heap.size, 0, none⟩) n n, .bool false, .int .i64 0] 69 (0, 0)) := by
    rw [hb.block _ (by simp)]; exact heap_at _ _ _ (by simp)
  have hh2 : w2.heap[w.heap.size]? = some (.cells L2 4 (0, 0)) := by
    rw [hb.block _ (by simp <;> omega), heap_past _ _ _ (by simp)]; exact heap_at _ _ _ rfl
  have q4 : w2.cell? ⟨w.heap.size + 1, 4, none⟩ = some (.pointer none) := by rw [cell_of_row _ _ _ _ _ _ hp2]; rfl
  have f4 : w2.frozen? ⟨w.heap.size + 1, 4, none⟩ = false := frozen_of_row _ _ _ _ _ hp2
  have hap := hT.apart hp2 (by decide) (by decide) (by decide)
  have hT2 : TreeIn w.heap.size (w2.setCell ⟨w.heap.size + 1, 4, none⟩ (.pointer (some ⟨t, 0, none⟩))) t lv N D la ia lb (fun k => List.replicate (fall N k) 0) (D + 1) := (hT.lower (by simp; omega)).kept (fun g hg hgs => Below.heap_setCell _ _ _ _ (by
    show g ≠ w.heap.size + 1
    rcases hgs with h | h | ⟨k, hk, h⟩
    · rw [h]; exact hap.1.symm
    · rw [h]; exact hap.2.1.symm
    · rw [h]; exact (hap.2.2 k hk).symm))
  have hp3 : (w2.setCell ⟨w.heap.size + 1, 4, none⟩ (.pointer (some ⟨t, 0, none⟩))).heap[w.heap.size + 1]? = some (.cells (oralCells n m c s t (.slice (some ⟨w.heap.size, 0, none⟩) n n) false 0) 69 (0, 0)) := by
    rw [heap_setCell_same _ _ _ _ _ _ hp2]; rfl
  have hh3 : (w2.setCell ⟨w.heap.size + 1, 4, none⟩ (.pointer (some ⟨t, 0, none⟩))).heap[w.heap.size]? = some (.cells L2 4 (0, 0)) := by
    rw [Below.heap_setCell _ _ _ _ (show w.heap.size ≠ w.heap.size + 1 by omega)]; exact hh2
  have b3 : Below w.heap.size w (w2.setCell ⟨w.heap.size + 1, 4, none⟩ (.pointer (some ⟨t, 0, none⟩))) := ((((Below.refl _ w).alloc (Nat.le_refl _) _).alloc (by simp) _).trans (hb.mono (by simp; omega))).setCell (show w.heap.size ≤ w.heap.size + 1 by omega) _
  clear hT hb hp2 hh2 hap
  go_wp2
  go_ret
  exact ⟨_, w.heap.size, t, lv, la, ia, lb, rfl, ⟨hT2, fun k _ => by simp, hp3, by omega⟩, by rw [← HL2.out]; exact hh3, Nat.le_refl _, b3⟩

end Go.Proofs.Ybulkrzw
