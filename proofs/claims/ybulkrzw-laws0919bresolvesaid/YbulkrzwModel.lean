import Derived.Test.YbulkrzwEigNew
import Derived.Test.YbulkrzwNaive
import Derived.Test.YbulkrzwSlices
namespace Go.Proofs.Ybulkrzw
open Go.RowKit
set_option linter.unusedVariables false

/-- A process of eig in memory, with what has become of the rest. -/
structure EigIn (B : Nat) (w0 w : World) (p t lv n d : Nat) (la ia hv : Value) (lb : Nat → Nat) (dec : Bool) (val : Int) (vs : Nat → List Int) : Prop where
  tree : TreeIn B w t lv n d la ia lb vs (d + 1)
  len : ∀ k, k ≤ d → (vs k).length = fall n k
  proc : w.heap[p]? = some (.cells (procCells n d t hv dec val) 44 (0, 0))
  below : Below B w0 w

section
variable {B : Nat} {w0 w : World} {p t lv n d : Nat} {la ia hv : Value} {lb : Nat → Nat} {dec : Bool} {val : Int} {vs : Nat → List Int}

theorem EigIn.store (h : EigIn B w0 w p t lv n d la ia hv lb dec val vs) {k j : Nat} (hk : k ≤ d) (x : Int) : EigIn B w0 (w.setCell ⟨lb k, j, none⟩ (.int .i64 x)) p t lv n d la ia hv lb dec val (upd vs k ((vs k).set j x)) := by
  have hap := (h.tree.apart h.proc (by decide) (by decide) (by decide)).2.2 k (by omega)
  refine ⟨h.tree.store (by omega) x, fun i hi => ?_, ?_, h.below.setCell (h.tree.bb k (by omega)) _⟩
  · by_cases e : i = k
    · subst e; rw [upd_at, List.length_set]; exact h.len i hi
    · rw [upd_ne _ _ _ e]; exact h.len i hi
  · rw [Below.heap_setCell _ _ _ _ hap]; exact h.proc

theorem EigIn.reads (h : EigIn B w0 w p t lv n d la ia hv lb dec val vs) : w.cell? ⟨p, 2, none⟩ = some (.pointer (some ⟨t, 0, none⟩)) ∧ (∀ k, k ≤ d → ∀ j, j < fall n k → w.cell? ⟨lb k, j, none⟩ = some (.int .i64 ((vs k).getD j 0))) ∧ (∀ k, k ≤ d → ∀ j, w.frozen? ⟨lb k, j, none⟩ = false) :=
  ⟨by rw [cell_of_row _ _ _ _ _ _ h.proc]; rfl, fun k hk j hj => h.tree.cells.2.2.2.1 k (by omega) j (by rw [h.len k hk]; exact hj), fun k hk j => h.tree.cells.2.2.2.2 k (by omega) j⟩

theorem EigIn.level (h : EigIn B w0 w p t lv n d la ia hv lb dec val vs) (hd : d ≤ 6) (k : Nat) (hk : k ≤ d) :
    Calls Yba.prog 15 #[.pointer (some ⟨t, 0, none⟩), .int .i64 k] w fun e w' => e = .returned (.slice (some ⟨lb k, 0, none⟩) (fall n k) (fall n k)) ∧ w' = w := by
  have := level_any h.tree (Nat.le_refl _) (by omega) (k : Int) k rfl (by omega)
  rw [h.len k hk] at this
  exact this

theorem EigIn.later {w' : World} (h : EigIn B w0 w p t lv n d la ia hv lb dec val vs) (hb : Below w.heap.size w w') (hB : B ≤ w.heap.size) : EigIn B w0 w' p t lv n d la ia hv lb dec val vs :=
  ⟨h.tree.kept (fun g hg _ => hb.block g hg), h.len, by rw [hb.block p (lt_of_heap h.proc)]; exact h.proc, h.below.trans (hb.mono hB)⟩
end

/-- The model's levels in memory, from level j on. -/
structure ModelIn (H : Nat) (w : World) (mv d : Nat) (mb cp : Nat → Nat) (f : Nat → List Int) (j : Nat) : Prop where
  row : ∃ L : Array Value, w.heap[mv]? = some (.cells L 40 (0, 0)) ∧ L.size = d + 1 ∧ ∀ k, j ≤ k → k ≤ d → L[k]? = some (.slice (some ⟨mb k, 0, none⟩) (f k).length (cp k))
  lev : ∀ k, j ≤ k → k ≤ d → ∃ cur : Array Value, w.heap[mb k]? = some (.cells cur 2 (0, 0)) ∧ cur.toList.take (f k).length = (f k).map (Value.int .i64)
  cap : ∀ k, j ≤ k → k ≤ d → (f k).length ≤ cp k ∧ cp k ≤ maxLen
  hv : H ≤ mv
  hb : ∀ k, j ≤ k → k ≤ d → H ≤ mb k

section
variable {H : Nat} {w : World} {mv d : Nat} {mb cp : Nat → Nat} {f : Nat → List Int} {j : Nat}

theorem ModelIn.reads (h : ModelIn H w mv d mb cp f j) : (∀ k, j ≤ k → k ≤ d → w.cell? ⟨mv, k, none⟩ = some (.slice (some ⟨mb k, 0, none⟩) (f k).length (cp k))) ∧ (∀ k, j ≤ k → k ≤ d → ∀ i, i < (f k).length → w.cell? ⟨mb k, i, none⟩ = some (.int .i64 ((f k).getD i 0))) := by
  obtain ⟨L, hL, hs, hk⟩ := h.row
  refine ⟨fun k h1 h2 => by rw [cell_of_row _ _ _ _ _ _ hL]; exact hk k h1 h2, fun k h1 h2 i hi => ?_⟩
  obtain ⟨cur, hc, ht⟩ := h.lev k h1 h2
  rw [cell_of_row _ _ _ _ _ _ hc]
  have e : cur[i]? = (cur.toList.take (f k).length)[i]? := by rw [List.getElem?_take, if_pos hi]; simp
  rw [e, ht, List.getElem?_map]
  simp [hi]

theorem ModelIn.kept {w' : World} (h : ModelIn H w mv d mb cp f j) (e : ∀ g, H ≤ g → g < w.heap.size → (g = mv ∨ ∃ k, j ≤ k ∧ k ≤ d ∧ g = mb k) → w'.heap[g]? = w.heap[g]?) : ModelIn H w' mv d mb cp f j := by
  obtain ⟨L, hL, hs, hk⟩ := h.row
  refine ⟨⟨L, by rw [e mv h.hv (lt_of_heap hL) (.inl rfl)]; exact hL, hs, hk⟩, fun k h1 h2 => ?_, h.cap, h.hv, h.hb⟩
  obtain ⟨cur, hc, ht⟩ := h.lev k h1 h2
  exact ⟨cur, by rw [e (mb k) (h.hb k h1 h2) (lt_of_heap hc) (.inr ⟨k, h1, h2, rfl⟩)]; exact hc, ht⟩

theorem ModelIn.push (h : ModelIn H w mv d mb cp f (j + 1)) (hj : j ≤ d) {gc cpj : Nat} {cur : Array Value} (hg : w.heap[gc]? = some (.cells cur 2 (0, 0))) (ht : cur.toList.take (f j).length = (f j).map (Value.int .i64)) (hc : (f j).length ≤ cpj ∧ cpj ≤ maxLen) (hH : H ≤ gc) :
    ModelIn H (w.setCell ⟨mv, j, none⟩ (.slice (some ⟨gc, 0, none⟩) (f j).length cpj)) mv d (fun k => if k = j then gc else mb k) (fun k => if k = j then cpj else cp k) f j := by
  obtain ⟨L, hL, hs, hk⟩ := h.row
  have ne : ∀ g c, w.heap[g]? = some (.cells c 2 (0, 0)) → g ≠ mv := by
    intro g c hg' e
    rw [e, hL] at hg'
    simp at hg'
  refine ⟨⟨L.setIfInBounds j (.slice (some ⟨gc, 0, none⟩) (f j).length cpj), heap_setCell_same _ _ _ _ _ _ hL, by simpa using hs, fun k h1 h2 => ?_⟩, fun k h1 h2 => ?_, fun k h1 h2 => ?_, h.hv, fun k h1 h2 => ?_⟩
  · by_cases e : k = j
    · subst e
      simp only [↓reduceIte]
      rw [Array.getElem?_setIfInBounds_self, if_pos (by omega)]
    · simp only [if_neg e]
      rw [Array.getElem?_setIfInBounds_ne (by omega)]
      exact hk k (by omega) h2
  · by_cases e : k = j
    · subst e
      simp only [↓reduceIte]
      exact ⟨cur, by rw [Below.heap_setCell _ _ _ _ (ne gc cur hg)]; exact hg, ht⟩
    · simp only [if_neg e]
      obtain ⟨c2, h3, h4⟩ := h.lev k (by omega) h2
      exact ⟨c2, by rw [Below.heap_setCell _ _ _ _ (ne _ c2 h3)]; exact h3, h4⟩
  · by_cases e : k = j
    · subst e; simp only [↓reduceIte]; exact hc
    · simp only [if_neg e]; exact h.cap k (by omega) h2
  · by_cases e : k = j
    · subst e; simp only [↓reduceIte]; exact hH
    · simp only [if_neg e]; exact h.hb k (by omega) h2
end

theorem wrap_mul (i wt : Nat) (h : i * wt + wt ≤ 100000) : wrap64 ((i : Int) * (wt : Int)) = ((i * wt : Nat) : Int) ∧ wrap64 (((i : Int) + 1) * (wt : Int)) = ((i * wt : Nat) : Int) + (wt : Int) := by
  constructor
  · rw [← Int.natCast_mul]; exact IntWalk.wrap64_in _ ⟨by omega, by omega⟩
  · rw [Int.add_mul, Int.one_mul, ← Int.natCast_mul]; exact IntWalk.wrap64_in _ ⟨by omega, by omega⟩

/-- The model's row while it is being laid. -/
def rowR (f : List Int) (i : Nat) : List Int := f.take i ++ List.replicate (f.length - i) 0
theorem rowR_set (f : List Int) (i : Nat) (hi : i < f.length) : (rowR f i).set i (f.getD i 0) = rowR f (i + 1) := by
  unfold rowR
  obtain ⟨r, hr⟩ : ∃ r, f.length - i = r + 1 := ⟨f.length - i - 1, by omega⟩
  rw [List.set_append_right (i := i) _ (by simp; omega), hr, show f.length - (i + 1) = r from by omega, List.take_succ_eq_append_getElem hi]
  have e : i - (f.take i).length = 0 := by simp; omega
  rw [e, List.replicate_succ, List.set_cons_zero, List.append_assoc]
  simp [hi]
theorem rowR_length (f : List Int) (i : Nat) (hi : i ≤ f.length) : (rowR f i).length = f.length := by simp [rowR]; omega
theorem rowR_full (f : List Int) : rowR f f.length = f := by simp [rowR]

end Go.Proofs.Ybulkrzw
