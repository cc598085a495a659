import Derived.Test.YbulkrzwOral
namespace Go.Proofs.Ybulkrzw
open Go.RowKit
set_option linter.unusedVariables false

section
variable {B : Nat} {w : World} {p hb t lv n m c s N D : Nat} {la ia : Value} {lb : Nat → Nat} {vs : Nat → List Int}

/-- What Receive of the commander's value in round 1 leaves. -/
def Received (B : Nat) (w : World) (p hb t lv n m c s N D : Nat) (la ia : Value) (lb : Nat → Nat) (vs : Nat → List Int) (root : Int) (e : Ending) (w' : World) : Prop :=
  e = .returned (.tuple #[]) ∧ OralIn B w' p hb t lv n m c s N D la ia lb (upd vs 0 [root]) ∧ Below B w w'

set_option maxHeartbeats 1000000 in
set_option maxRecDepth 100000 in
theorem receive_any (h : OralIn B w p hb t lv n m c s N D la ia lb vs) (hB : B ≤ w.heap.size) (hh : w.heap[hb]? = some (.cells (List.replicate n (Value.bool false)).toArray 4 (0, 0))) (hhB : B ≤ hb) (hc : c < n) (hn8 : n ≤ 8) (hsc : s ≠ c) (hD : D ≤ 6) (vb : Nat) (root : Int) (hv : w.cell? ⟨vb, 0, none⟩ = some (.int .i64 root)) (hvb : vb ≠ hb) :
    Calls Yba.prog 22 #[.pointer (some ⟨p, 0, none⟩), .int .i64 1, .int .i64 c, .slice (some ⟨vb, 0, none⟩) 1 1] w (Received B w p hb t lv n m c s N D la ia lb vs root) := by
  have hpz := lt_of_heap h.proc
  have hhz := lt_of_heap hh
  have hvz := World.block_lt_of_cell? w _ hv
  have hphb : hb ≠ p := by
    intro e
    have h1 := h.proc
    rw [← e, hh] at h1
    simp at h1
  have q0 : w.cell? ⟨p, 0, none⟩ = some (.int .i64 n) := by rw [cell_of_row _ _ _ _ _ _ h.proc]; rfl
  have q2 : w.cell? ⟨p, 2, none⟩ = some (.int .i64 c) := by rw [cell_of_row _ _ _ _ _ _ h.proc]; rfl
  have q3 : w.cell? ⟨p, 3, none⟩ = some (.int .i64 s) := by rw [cell_of_row _ _ _ _ _ _ h.proc]; rfl
  have q4 : w.cell? ⟨p, 4, none⟩ = some (.pointer (some ⟨t, 0, none⟩)) := by rw [cell_of_row _ _ _ _ _ _ h.proc]; rfl
  have q5 : w.cell? ⟨p, 5, none⟩ = some (.slice (some ⟨hb, 0, none⟩) n n) := by rw [cell_of_row _ _ _ _ _ _ h.proc]; rfl
  have r0 : w.cell? ⟨hb, c, none⟩ = some (.bool false) := by rw [cell_of_row _ _ _ _ _ _ hh]; simp [hc]
  have g0 : w.frozen? ⟨hb, c, none⟩ = false := frozen_of_row _ _ _ _ _ hh
  have t1 : ((c : Int) == (s : Int)) = false := by rw [beq_eq_false_iff_ne]; omega
  have t2 : decide ((c : Int) < 0) = false := by simp
  have t3 : decide ((n : Int) ≤ (c : Int)) = false := by simp; omega
  simp only at hvz
  go_enter Yba.func22, Yba.ntmps22
  go_upto_region 5 with fail
  obtain ⟨X, hX⟩ : ∃ X, X = ((w.setCell ⟨hb, c, none⟩ (.bool true)).alloc (.cells #[.pointer (some ⟨p, 0, none⟩)] 52)).alloc (.cells #[.slice (some ⟨vb, 0, none⟩) 1 1] 40) := ⟨_, rfl⟩
  rw [← hX]
  have hXo : ∀ g, g < w.heap.size → g ≠ hb → X.heap[g]? = w.heap[g]? := by
    intro g hg hne
    rw [hX, heap_past _ _ _ (by simp; omega), heap_past _ _ _ (by simpa using hg), Below.heap_setCell _ _ _ _ hne]
  have x1 : X.cell? ⟨w.heap.size, 0, none⟩ = some (.pointer (some ⟨p, 0, none⟩)) := by
    have h1 : X.heap[w.heap.size]? = some (.cells #[.pointer (some ⟨p, 0, none⟩)] 52 (0, 0)) := by rw [hX, heap_past _ _ _ (by simp)]; exact heap_at _ _ _ (by simp)
    rw [cell_of_row _ _ _ _ _ _ h1]; rfl
  have x2 : X.cell? ⟨w.heap.size + 1, 0, none⟩ = some (.slice (some ⟨vb, 0, none⟩) 1 1) := by
    have h1 : X.heap[w.heap.size + 1]? = some (.cells #[.slice (some ⟨vb, 0, none⟩) 1 1] 40 (0, 0)) := by rw [hX]; exact heap_at _ _ _ (by simp)
    rw [cell_of_row _ _ _ _ _ _ h1]; rfl
  have x3 : X.cell? ⟨vb, 0, none⟩ = some (.int .i64 root) := (World.cell?_of_block (a := ⟨vb, 0, none⟩) (hXo vb hvz hvb)).trans hv
  have bX : Below B w X := by
    rw [hX]
    exact ((((Below.refl _ w).setCell hhB _)).alloc (by simpa using hB) _).alloc (by simp; omega) _
  have hap := h.tree.apart hh (by decide) (by decide) (by decide)
  have hTX : TreeIn B X t lv N D la ia lb vs (D + 1) := h.tree.kept (fun g hg hgs => hXo g hg (by
    rcases hgs with e | e | ⟨k, hk, e⟩
    · rw [e]; exact hap.1.symm
    · rw [e]; exact hap.2.1.symm
    · rw [e]; exact (hap.2.2 k hk).symm))
  have hpX : X.heap[p]? = some (.cells (oralCells n m c s t (.slice (some ⟨hb, 0, none⟩) n n) false 0) 69 (0, 0)) := by rw [hXo p hpz hphb.symm]; exact h.proc
  have x4 : X.cell? ⟨p, 4, none⟩ = some (.pointer (some ⟨t, 0, none⟩)) := by rw [cell_of_row _ _ _ _ _ _ hpX]; rfl
  have hl0 := h.len 0 (by omega)
  have HLV : Hid (∀ W : World, W.heap = X.heap → Calls Yba.prog 15 #[.pointer (some ⟨t, 0, none⟩), .int .i64 0] W fun e w' => e = .returned (.slice (some ⟨lb 0, 0, none⟩) 1 1) ∧ w' = W) := fun W e => by
    have := level_any (hTX.same (w' := W) e) (Nat.le_refl _) (by omega) 0 0 rfl (by omega)
    rw [hl0] at this
    exact this
  have x5 := hTX.cells.2.2.2.1 0 (by omega) 0 (by rw [hl0]; simp [fall])
  have x6 := hTX.cells.2.2.2.2 0 (by omega) 0
  have hst := hTX.store (k := 0) (j := 0) (by omega) root
  have hset : (vs 0).set 0 root = [root] := by
    match hvs : vs 0, hl0 with
    | [a], _ => rfl
    | [], h => simp [hvs, fall] at hl0
    | a :: b :: r, h => simp [hvs, fall] at hl0
  rw [hset] at hst
  have hapX := (hTX.apart hpX (by decide) (by decide) (by decide)).2.2 0 (by omega)
  have fin : OralIn B (X.setCell ⟨lb 0, 0, none⟩ (.int .i64 root)) p hb t lv n m c s N D la ia lb (upd vs 0 [root]) := ⟨hst, fun k hk => by
    by_cases e : k = 0
    · subst e; rw [upd_at]; rfl
    · rw [upd_ne _ _ _ e]; exact h.len k hk, by rw [Below.heap_setCell _ _ _ _ hapX]; exact hpX, h.bp⟩
  have finb : Below B w (X.setCell ⟨lb 0, 0, none⟩ (.int .i64 root)) := bX.setCell (hTX.bb 0 (by omega)) _
  have FIN : Hid (∀ W : World, W.heap = (X.setCell ⟨lb 0, 0, none⟩ (.int .i64 root)).heap → W.os = X.os → W.tape = X.tape → W.output = X.output → Received B w p hb t lv n m c s N D la ia lb vs root (.returned (.tuple #[])) W) := fun W e1 e2 e3 e4 =>
    ⟨rfl, ⟨fin.tree.same e1, fin.len, by rw [e1]; exact fin.proc, fin.bp⟩, ⟨e2.trans bX.os, e3.trans bX.tape, e4.trans bX.output, by rw [e1]; exact finb.size, by rw [e1]; exact finb.block⟩⟩
  generalize (vs 0).getD 0 0 = old at x5
  clear hst hset hapX fin finb hTX hpX hap bX hXo hX q0 q2 q3 q4 q5 r0 g0 t1 t2 t3 hv hl0
  go_region_with (go_at_call 15; refine (HLV.out _ ?_).mono ?_; rfl; rintro e w2 ⟨rfl, hw2⟩; have hw3 := hw2.symm; subst hw3; clear hw2)
  all_goals go_wp2_with fail
  all_goals
    refine bodyPost_ret (results_none rfl _ _ _) rfl ?_
    exact FIN.out _ rfl rfl rfl rfl
end

section
variable {B : Nat} {w : World} {p hb t lv n m c s N D : Nat} {la ia : Value} {lb : Nat → Nat} {vs : Nat → List Int}

set_option maxHeartbeats 1000000 in
set_option maxRecDepth 100000 in
theorem send_no (h : OralIn B w p hb t lv n m c s N D la ia lb vs) (hD : D ≤ 6) (r : Int) (hr0 : -9223372036854775808 ≤ r) (hr1 : r ≤ 9223372036854775807) (hr : ¬ (2 ≤ r ∧ r ≤ (D : Int) + 1)) :
    Calls Yba.prog 21 #[.pointer (some ⟨p, 0, none⟩), .int .i64 r] w fun e w' => e = .returned (.tuple #[.slice none 0 0, .bool false]) ∧ w' = w := by
  have q4 : w.cell? ⟨p, 4, none⟩ = some (.pointer (some ⟨t, 0, none⟩)) := by rw [cell_of_row _ _ _ _ _ _ h.proc]; rfl
  have hdp := treeDepth_any h.tree (by omega)
  by_cases h1 : r < -9223372036854775806
  · have e1 : wrap64 (r - 2) = r + 18446744073709551614 := by unfold wrap64; omega
    have t1 : decide (r + 18446744073709551614 < 0) = false := by simp; omega
    go_enter Yba.func21, Yba.ntmps21
    go_wp2_with (go_at_call 30; refine hdp.mono ?_; rintro e w2 ⟨rfl, hw2⟩; have hw3 := hw2.symm; subst hw3; clear hw2)
    go_ret2
    exact ⟨rfl, rfl⟩
  by_cases h2 : r < 2
  · have t1 : decide (r - 2 < 0) = true := by simp; omega
    go_enter Yba.func21, Yba.ntmps21
    go_wp2_with (go_at_call 30; refine hdp.mono ?_; rintro e w2 ⟨rfl, hw2⟩; have hw3 := hw2.symm; subst hw3; clear hw2)
    go_ret2
    exact ⟨rfl, rfl⟩
  · have t1 : decide (r - 2 < 0) = false := by simp; omega
    have t2 : (D : Int) ≤ r - 2 := by omega
    go_enter Yba.func21, Yba.ntmps21
    go_wp2_with (go_at_call 30; refine hdp.mono ?_; rintro e w2 ⟨rfl, hw2⟩; have hw3 := hw2.symm; subst hw3; clear hw2)
    go_ret2
    exact ⟨rfl, rfl⟩

/-- What Send leaves in a round in which the lieutenant relays: a row of its own with the level's numbers. -/
def SendMade (xs : List Int) (w : World) (e : Ending) (w' : World) : Prop :=
  ∃ g cap cur, e = .returned (.tuple #[.slice (some ⟨g, 0, none⟩) xs.length cap, .bool true]) ∧ w'.heap[g]? = some (.cells cur 2 (0, 0)) ∧ cur.toList.take xs.length = xs.map (Value.int .i64) ∧ cur.size = cap ∧ xs.length ≤ cap ∧ cap ≤ maxLen ∧ w.heap.size ≤ g ∧ Below w.heap.size w w'

set_option maxHeartbeats 1000000 in
set_option maxRecDepth 100000 in
theorem send_yes (h : OralIn B w p hb t lv n m c s N D la ia lb vs) (hD : D ≤ 6) (hN : N ≤ 6) (k : Nat) (hk : k < D) :
    Calls Yba.prog 21 #[.pointer (some ⟨p, 0, none⟩), .int .i64 ((k : Int) + 2)] w (SendMade (vs k) w) := by
  have q4 : w.cell? ⟨p, 4, none⟩ = some (.pointer (some ⟨t, 0, none⟩)) := by rw [cell_of_row _ _ _ _ _ _ h.proc]; rfl
  have hdp := treeDepth_any h.tree (by omega)
  have hlev := level_any h.tree (Nat.le_refl _) (by omega) (k : Int) k rfl (by omega)
  have hlk := h.len k (by omega)
  have hf := fall_le N k (by omega) (by omega)
  have hcl := clone_any (lb k) (vs k).length (vs k).length (vs k) w rfl (by omega) (fun j hj => by rw [Nat.zero_add]; exact h.tree.cells.2.2.2.1 k (by omega) j hj) (lt_of_heap (h.tree.lev k (by omega)))
  clear hlk hf
  have e1 : (k : Int) + 2 - 2 = (k : Int) := by omega
  have t1 : decide ((k : Int) < 0) = false := by simp
  have t2 : decide ((D : Int) ≤ (k : Int)) = false := by simp; omega
  go_enter Yba.func21, Yba.ntmps21
  go_wp2_with (first | (go_at_call 30; refine hdp.mono ?_; rintro e w2 ⟨rfl, hw2⟩; have hw3 := hw2.symm; subst hw3; clear hw2) | (go_at_call 15; refine hlev.mono ?_; rintro e w2 ⟨rfl, hw2⟩; have hw3 := hw2.symm; subst hw3; clear hw2) | (go_at_call 16; refine hcl.mono ?_; rintro e w2 ⟨g, cap, cur, rfl, hg, htk, hcs, hlc, hcm, hge, hb⟩))
  go_ret2
  exact ⟨g, cap, cur, rfl, hg, htk, hcs, hlc, hcm, hge, hb⟩
end

end Go.Proofs.Ybulkrzw
