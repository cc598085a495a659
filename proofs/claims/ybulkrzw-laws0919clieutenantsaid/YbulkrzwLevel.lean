import Derived.Test.YbulkrzwMaj
namespace Go.Proofs.Ybulkrzw
open Go.RowKit
set_option linter.unusedVariables false

theorem ret_slice {p : Option Addr} {a b c : Nat} (h : a = b) : Ending.returned (.slice p a c) = .returned (.slice p b c) := by rw [h]

section
variable {B : Nat} {w : World} {t lv n d : Nat} {la ia : Value} {lb : Nat → Nat} {vs : Nat → List Int} {m : Nat}

theorem TreeIn.cells (h : TreeIn B w t lv n d la ia lb vs m) :
    w.cell? ⟨t, 0, none⟩ = some (.int .i64 n) ∧ w.cell? ⟨t, 1, none⟩ = some (.slice (some ⟨lv, 0, none⟩) (d + 1) (d + 1)) ∧ (∀ k, k < m → w.cell? ⟨lv, k, none⟩ = some (.slice (some ⟨lb k, 0, none⟩) (vs k).length (vs k).length)) ∧
    (∀ k, k < m → ∀ j, j < (vs k).length → w.cell? ⟨lb k, j, none⟩ = some (.int .i64 ((vs k).getD j 0))) ∧ (∀ k, k < m → ∀ j, w.frozen? ⟨lb k, j, none⟩ = false) := by
  obtain ⟨L, hL, hLs, hLk⟩ := h.row
  refine ⟨by rw [cell_of_row _ _ _ _ _ _ h.top]; rfl, by rw [cell_of_row _ _ _ _ _ _ h.top]; rfl, fun k hk => ?_, fun k hk j hj => ?_, fun k hk j => frozen_of_row _ _ _ _ _ (h.lev k hk)⟩
  · rw [cell_of_row _ _ _ _ _ _ hL]; exact hLk k hk
  · rw [cell_of_row _ _ _ _ _ _ (h.lev k hk)]; simp [hj]

theorem TreeIn.congr {vs' : Nat → List Int} (h : TreeIn B w t lv n d la ia lb vs m) (e : ∀ k, k < m → vs k = vs' k) : TreeIn B w t lv n d la ia lb vs' m := by
  obtain ⟨L, hL, hLs, hLk⟩ := h.row
  exact ⟨h.top, ⟨L, hL, hLs, fun k hk => by rw [← e k hk]; exact hLk k hk⟩, fun k hk => by rw [← e k hk]; exact h.lev k hk, h.inj, h.bt, h.bl, h.bb⟩

/-- vs with level k put to l. -/
def upd (vs : Nat → List Int) (k : Nat) (l : List Int) : Nat → List Int := fun i => if i = k then l else vs i

theorem upd_at (vs : Nat → List Int) (k : Nat) (l : List Int) : upd vs k l k = l := by simp [upd]
theorem upd_ne (vs : Nat → List Int) (k : Nat) (l : List Int) {i : Nat} (h : i ≠ k) : upd vs k l i = vs i := by simp [upd, h]

/-- A store into one level. -/
theorem TreeIn.store (h : TreeIn B w t lv n d la ia lb vs m) {k j : Nat} (hk : k < m) (x : Int) : TreeIn B (w.setCell ⟨lb k, j, none⟩ (.int .i64 x)) t lv n d la ia lb (upd vs k ((vs k).set j x)) m := by
  obtain ⟨L, hL, hLs, hLk⟩ := h.row
  have h1 := h.lev k hk
  have ntop : t ≠ lb k := by
    intro e
    have h2 := h.top
    rw [e, h1] at h2
    simp at h2
  have nrow : lv ≠ lb k := by
    intro e
    have h2 := hL
    rw [e, h1] at h2
    simp at h2
  refine ⟨?_, ⟨L, ?_, hLs, ?_⟩, ?_, h.inj, h.bt, h.bl, h.bb⟩
  · rw [Below.heap_setCell _ _ _ _ ntop]; exact h.top
  · rw [Below.heap_setCell _ _ _ _ nrow]; exact hL
  · intro i hi
    rw [hLk i hi]
    by_cases e : i = k
    · subst e; rw [upd_at]; simp
    · rw [upd_ne _ _ _ e]
  · intro i hi
    by_cases e : i = k
    · subst e
      rw [upd_at, heap_setCell_same _ _ _ _ _ _ h1]
      simp [List.map_set]
    · rw [upd_ne _ _ _ e, Below.heap_setCell _ _ _ _ (fun e2 => e (h.inj i k hi hk e2))]
      exact h.lev i hi

/-- What turns no block of the tree's leaves the tree. -/
theorem TreeIn.kept {w' : World} (h : TreeIn B w t lv n d la ia lb vs m) (e : ∀ g, g < w.heap.size → (g = t ∨ g = lv ∨ ∃ k, k < m ∧ g = lb k) → w'.heap[g]? = w.heap[g]?) : TreeIn B w' t lv n d la ia lb vs m := by
  obtain ⟨L, hL, hLs, hLk⟩ := h.row
  refine ⟨?_, ⟨L, ?_, hLs, hLk⟩, ?_, h.inj, h.bt, h.bl, h.bb⟩
  · rw [e t (lt_of_heap h.top) (.inl rfl)]; exact h.top
  · rw [e lv (lt_of_heap hL) (.inr (.inl rfl))]; exact hL
  · intro k hk
    rw [e (lb k) (lt_of_heap (h.lev k hk)) (.inr (.inr ⟨k, hk, rfl⟩))]; exact h.lev k hk

/-- A block of another element type than the tree's three is none of the tree's. -/
theorem TreeIn.apart (h : TreeIn B w t lv n d la ia lb vs m) {g ty : Nat} {c : Array Value} {mk : Nat × Nat} (hg : w.heap[g]? = some (.cells c ty mk)) (h66 : ty ≠ 66) (h40 : ty ≠ 40) (h2 : ty ≠ 2) : g ≠ t ∧ g ≠ lv ∧ ∀ k, k < m → g ≠ lb k := by
  obtain ⟨L, hL, hLs, hLk⟩ := h.row
  refine ⟨?_, ?_, ?_⟩
  · intro e; subst e; have h1 := h.top; rw [hg] at h1; simp at h1; exact h66 h1.2.1
  · intro e; subst e; rw [hg] at hL; simp at hL; exact h40 hL.2.1
  · intro k hk e; subst e; have h1 := h.lev k hk; rw [hg] at h1; simp at h1; exact h2 h1.2.1

set_option maxHeartbeats 400000 in
set_option maxRecDepth 100000 in
theorem level_any (h : TreeIn B w t lv n d la ia lb vs m) (hm : m ≤ d + 1) (hd : d ≤ 100) (k : Int) (kn : Nat) (hk : k = kn) (hkm : kn < m) :
    Calls Yba.prog 15 #[.pointer (some ⟨t, 0, none⟩), .int .i64 k] w fun e w' => e = .returned (.slice (some ⟨lb kn, 0, none⟩) (vs kn).length (vs kn).length) ∧ w' = w := by
  obtain ⟨-, c1, c2, -, -⟩ := h.cells
  have c3 := c2 kn hkm
  subst hk
  clear c2
  go_enter Yba.func15, Yba.ntmps15
  go_wp2
  go_ret
  exact ⟨rfl, rfl⟩

set_option maxHeartbeats 400000 in
set_option maxRecDepth 100000 in
/-- The children of node j of level k: n - k cells of the next level. -/
theorem children_any (h : TreeIn B w t lv n d la ia lb vs m) (hm : m ≤ d + 1) (hd : d ≤ 6) (hn : n ≤ 6) (hdn : d ≤ n) (k j : Nat) (hkm : k + 1 < m) (hj : j ≤ 720) (hlen : (j + 1) * (n - k) ≤ (vs (k + 1)).length) (hl2 : (vs (k + 1)).length ≤ 720) :
    Calls Yba.prog 28 #[.pointer (some ⟨t, 0, none⟩), .int .i64 k, .int .i64 j] w fun e w' => e = .returned (.slice (some ⟨lb (k + 1), j * (n - k), none⟩) (n - k) ((vs (k + 1)).length - j * (n - k))) ∧ w' = w := by
  obtain ⟨c0, c1, c2, -, -⟩ := h.cells
  have c3 := c2 (k + 1) hkm
  clear c2
  obtain ⟨wd, hwd⟩ : ∃ wd, wd = n - k := ⟨_, rfl⟩
  obtain ⟨lo, hlo⟩ : ∃ lo, lo = j * (n - k) := ⟨_, rfl⟩
  have hhi : (j + 1) * (n - k) = lo + wd := by rw [Nat.add_mul, Nat.one_mul, hlo, hwd]
  rw [hhi] at hlen
  rw [← hlo, ← hwd]
  generalize (vs (k + 1)).length = ln at *
  have hw1 : 1 ≤ wd := by omega
  have e1 : (n : Int) - (k : Int) = (wd : Int) := by omega
  have m1 : wrap64 ((j : Int) * (wd : Int)) = (lo : Int) := by
    rw [hwd, ← Int.natCast_mul, ← hlo]; exact IntWalk.wrap64_in _ ⟨by omega, by omega⟩
  have m2 : wrap64 (((j : Int) + 1) * (wd : Int)) = (lo : Int) + (wd : Int) := by
    have e2 : ((j : Int) + 1) * (wd : Int) = (lo : Int) + (wd : Int) := by
      rw [Int.add_mul, Int.one_mul, hwd, ← Int.natCast_mul, ← hlo]
    rw [e2]; exact IntWalk.wrap64_in _ ⟨by omega, by omega⟩
  clear hlo hwd hhi
  have hne : ¬ ln = lo := by omega
  have hdd : lo + wd - lo = wd := by omega
  go_enter Yba.func28, Yba.ntmps28
  go_wp2
  go_ret
  exact ⟨ret_slice hdd, rfl⟩
end

end Go.Proofs.Ybulkrzw
