import Derived.Test.YbulkrzwTree
import Derived.WalkSpells
namespace Go.Proofs.Ybulkrzw
open Go.RowKit
set_option linter.unusedVariables false

/-- What slices.Clone leaves: a row of its own that begins with the same numbers. -/
def CloneMade (xs : List Int) (w : World) (e : Ending) (w' : World) : Prop :=
  ∃ g cap cur, e = .returned (.slice (some ⟨g, 0, none⟩) xs.length cap) ∧ w'.heap[g]? = some (.cells cur 2 (0, 0)) ∧ cur.toList.take xs.length = xs.map (Value.int .i64) ∧ cur.size = cap ∧ xs.length ≤ cap ∧ cap ≤ maxLen ∧ w.heap.size ≤ g ∧ Below w.heap.size w w'

set_option maxHeartbeats 1000000 in
set_option maxRecDepth 100000 in
theorem clone_any (g len cap : Nat) (xs : List Int) (w : World) (hl : xs.length = len) (hlen : len ≤ 1000) (hc : ∀ j, j < len → w.cell? ⟨g, 0 + j, none⟩ = some (.int .i64 (xs.getD j 0))) (hg : g < w.heap.size) :
    Calls Yba.prog 16 #[.slice (some ⟨g, 0, none⟩) len cap] w (CloneMade xs w) := by
  obtain ⟨i0, hi, hz0, hz1, hz2⟩ := info_parts info2
  have nl : ∀ (W : World) (x : Option Addr) (l c : Nat), (binOp .eql 40 (.slice x l c) (.slice none 0 0)).run Yba.prog W = .ok (.bool x.isNone) W := fun W x l c => Lib.run_eql_slice_nil W _ _ x l c 0 0 Yba.underlying40
  have hown : (w.alloc (.cells #[] 2)).ownsRow w.heap.size 2 1 (.slice (some ⟨w.heap.size, 0, none⟩) 0 0) 0 [] := World.ownsRow_made w #[] 0 (Nat.le_refl _) (Nat.zero_le _) rfl
  have CC : Hid (∀ j, j < len → w.cell? ⟨g, 0 + j, none⟩ = some (.int .i64 (xs.getD j 0))) := hc
  clear hc
  go_enter Yba.func16, Yba.ntmps16
  go_wp2_with (at_builtin; refine wpList_append_own _ rfl _ _ 40 rfl w.heap.size 2 i0 (.int .i64 0) 1 8 Yba.underlying40 hi hz0 hz1 hz2 rfl (by decide) _ _ _ rfl hown _ len cap (xs.map (Value.int .i64)) rfl ?c0 ?c1 ?c2 ?c3 ?c4 ?c5 ?_)
  case c0 => simp [hl]
  case c1 =>
    intro j u hj
    have hjl : j < len := by have := (List.getElem?_eq_some_iff.1 hj).1; simpa [hl] using this
    have h1 := CC.out j hjl
    rw [Addr.add_lit, World.cell?_alloc_past _ _ _ hg, h1]
    rw [List.getElem?_map] at hj
    have h2 : j < xs.length := by omega
    simp [h2] at hj ⊢
    exact hj
  case c2 => exact ints_oneCell _ _
  case c3 => unfold maxLen; omega
  case c4 => omega
  case c5 => simp
  intro v' w2 hown' hgrow hnil
  go_wp2
  go_ret
  have hs2 : w.heap.size + 1 ≤ w2.heap.size := by simpa using hgrow.size
  rcases hown'.2 with ⟨hv, _⟩ | ⟨g2, cap2, cur, hv, hb2, hh, hn, hm, hcs, ht⟩
  · exact absurd hv hnil
  · refine ⟨g2, cap2, cur, by rw [hl]; exact congrArg Ending.returned hv, hh, by rw [hl]; simpa using ht, by simpa using hcs, by omega, hm, hb2, ?_⟩
    exact ((Below.refl _ w).alloc (Nat.le_refl _) _).grown hgrow (by simp) (fun k hk => (hown.lt k hk).1)

set_option maxHeartbeats 1000000 in
set_option maxRecDepth 100000 in
theorem sliceEqual_any (g1 g2 len c1 c2 : Nat) (xs : List Int) (w : World) (hl : xs.length = len) (hlen : len ≤ 1000) (h1 : ∀ j, j < len → w.cell? ⟨g1, 0 + j, none⟩ = some (.int .i64 (xs.getD j 0))) (h2 : ∀ j, j < len → w.cell? ⟨g2, 0 + j, none⟩ = some (.int .i64 (xs.getD j 0))) :
    Calls Yba.prog 19 #[.slice (some ⟨g1, 0, none⟩) len c1, .slice (some ⟨g2, 0, none⟩) len c2] w fun e w' => e = .returned (.bool true) ∧ ∃ q, w' = w.drewN q := by
  have CC1 : Hid (∀ j, j < len → w.cell? ⟨g1, 0 + j, none⟩ = some (.int .i64 (xs.getD j 0))) := h1
  have CC2 : Hid (∀ j, j < len → w.cell? ⟨g2, 0 + j, none⟩ = some (.int .i64 (xs.getD j 0))) := h2
  clear h1 h2
  go_enter Yba.func19, Yba.ntmps19
  go_wp2_with fail
  go_loopw [13] (fun i wr => ∃ k q : Nat, k ≤ len ∧ i = .int .i64 k ∧ wr = w.drewN q) (fun i _ => len - (intOf i).toNat)
  case atStart => exact ⟨0, 0, Nat.zero_le _, rfl, rfl⟩
  case round =>
    obtain ⟨k, q, hk, rfl, rfl⟩ := hrel
    by_cases hlt : k < len
    · have hk1 := CC1.out k hlt
      have hk2 := CC2.out k hlt
      rw [Nat.zero_add] at hk1 hk2
      generalize xs.getD k 0 = v at *
      go_wp2_with fail
      go_quiet (fail)
      go_wp2
      go_roundw
      case rel => exact ⟨k + 1, _, by omega, by go_num, rfl⟩
      case measure => simp [intOf]; omega
    · go_wp2
      go_ret
      exact ⟨rfl, _, rfl⟩

end Go.Proofs.Ybulkrzw
