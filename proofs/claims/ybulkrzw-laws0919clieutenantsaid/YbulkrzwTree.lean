import Derived.Test.YbulkrzwU32
import Derived.Deep.DeepCutAuto
import Derived.Deep.QuietTactic
import Derived.BigQuiet
import Derived.BigRegion
import Derived.RegionTactic
import Derived.Deep.RegionWith
namespace Go.Proofs.Ybulkrzw
open Go.RowKit
set_option linter.unusedVariables false

/-- The number of nodes of level k of a tree over n members. -/
def fall (n : Nat) : Nat → Nat
  | 0 => 1
  | k + 1 => fall n k * (n - k)

theorem fall_le (n k : Nat) (hn : n ≤ 6) (hk : k ≤ 6) : fall n k ≤ 720 := by
  have h : ∀ n, n < 7 → ∀ k, k < 7 → fall n k ≤ 720 := by decide
  exact h n (by omega) k (by omega)

theorem fall_pos (n k : Nat) (hk : k ≤ n) : 1 ≤ fall n k := by
  induction k with
  | zero => simp [fall]
  | succ k ih =>
    have := ih (by omega)
    have h2 : 1 ≤ n - k := by omega
    simp only [fall]
    exact Nat.mul_pos this h2

/-- A tree in memory, of which the first m levels are laid: the struct in block t, its levels' row in block lv, level k in block 'lb k', holding the numbers 'vs k'. -/
structure TreeIn (B : Nat) (w : World) (t lv n d : Nat) (la ia : Value) (lb : Nat → Nat) (vs : Nat → List Int) (m : Nat) : Prop where
  top : w.heap[t]? = some (.cells #[.int .i64 n, .slice (some ⟨lv, 0, none⟩) (d + 1) (d + 1), la, ia] 66 (0, 0))
  row : ∃ L : Array Value, w.heap[lv]? = some (.cells L 40 (0, 0)) ∧ L.size = d + 1 ∧ ∀ k, k < m → L[k]? = some (.slice (some ⟨lb k, 0, none⟩) (vs k).length (vs k).length)
  lev : ∀ k, k < m → w.heap[lb k]? = some (.cells ((vs k).map (Value.int .i64)).toArray 2 (0, 0))
  inj : ∀ j k, j < m → k < m → lb j = lb k → j = k
  bt : B ≤ t
  bl : B ≤ lv
  bb : ∀ k, k < m → B ≤ lb k

/-- A world of the same memory holds the same tree. -/
theorem TreeIn.same {B : Nat} {w w' : World} {t lv n d : Nat} {la ia : Value} {lb : Nat → Nat} {vs : Nat → List Int} {m : Nat} (h : TreeIn B w t lv n d la ia lb vs m) (e : w'.heap = w.heap) : TreeIn B w' t lv n d la ia lb vs m :=
  ⟨by rw [e]; exact h.top, by rw [e]; exact h.row, by rw [e]; exact h.lev, h.inj, h.bt, h.bl, h.bb⟩

theorem info40 : (Yba.prog.info? 40).map (fun i => (i.zero, i.size, i.bytes)) = some (some (.slice none 0 0), 1, 24) := by kernel_rfl
theorem info3 : (Yba.prog.info? 3).map (fun i => (i.zero, i.size, i.bytes)) = some (some (.int .i64 0), 1, 8) := by kernel_rfl
theorem info2 : (Yba.prog.info? 2).map (fun i => (i.zero, i.size, i.bytes)) = some (some (.int .i64 0), 1, 8) := by kernel_rfl
theorem info4 : (Yba.prog.info? 4).map (fun i => (i.zero, i.size, i.bytes)) = some (some (.bool false), 1, 1) := by kernel_rfl

/-- 'make' at a length and a capacity of few elements, in whatever world. -/
theorem make_small {t e : TypeId} {z : Value} {bytes : Nat} (hi : (Yba.prog.info? e).map (fun i => (i.zero, i.size, i.bytes)) = some (some z, 1, bytes)) (ht : Yba.prog.underlying t = some (.slice e)) (hb : bytes ≤ 24) (hz : z.cells = #[z])
    (l c : Int) (ln cn : Nat) (hl : l = ln) (hc : c = cn) (hlc : ln ≤ cn) (hcn : cn ≤ 100000) (W : World) :
    (Instr.makeSlice t (.int .i64 l) (.int .i64 c)).run Yba.prog W = .ok (.slice (some ⟨W.heap.size, 0, none⟩) ln cn) (W.alloc (.cells (List.replicate cn z).toArray e)) := by
  obtain ⟨i, h1, h2, h3, h4⟩ := info_parts hi
  subst hl
  subst hc
  have hby : (bytes : Int) * cn ≤ 281474976710656 := by
    have h5 : (bytes : Int) ≤ 24 := by omega
    have h6 : (bytes : Int) * cn ≤ 24 * 100000 := Int.mul_le_mul h5 (by omega) (by omega) (by omega)
    omega
  have h := run_make (P := Yba.prog) W t e i z ht h1 h2 .i64 .i64 ln cn (by omega) (by omega) (by rw [h4]; exact hby) (by omega)
  rw [h, hz, h3]
  have e1 : madeCells #[z] (((cn : Int)).toNat * 1) = (List.replicate cn z).toArray := by
    have := toList_madeCells_one z cn
    rw [← this]; simp
  simp only [Int.toNat_natCast] at e1 ⊢
  rw [e1]

theorem heap_at (w : World) (o : Obj) (k : Nat) (hk : k = w.heap.size) : (w.alloc o).heap[k]? = some o := by subst hk; exact heap_alloc_new w o
theorem heap_past (w : World) (o : Obj) (k : Nat) (hk : k < w.heap.size) : (w.alloc o).heap[k]? = w.heap[k]? := Below.heap_alloc w o k hk

theorem heap4 (w : World) (A B C D : Obj) : ((((w.alloc A).alloc B).alloc C).alloc D).heap[w.heap.size]? = some A ∧ ((((w.alloc A).alloc B).alloc C).alloc D).heap[w.heap.size + 1]? = some B ∧
    ((((w.alloc A).alloc B).alloc C).alloc D).heap[w.heap.size + 1 + 1]? = some C ∧ ((((w.alloc A).alloc B).alloc C).alloc D).heap[w.heap.size + 1 + 1 + 1]? = some D := by
  refine ⟨?_, ?_, ?_, ?_⟩
  · rw [heap_past _ _ _ (by simp <;> omega), heap_past _ _ _ (by simp <;> omega), heap_past _ _ _ (by simp <;> omega), heap_at _ _ _ rfl]
  · rw [heap_past _ _ _ (by simp <;> omega), heap_past _ _ _ (by simp <;> omega), heap_at _ _ _ (by simp)]
  · rw [heap_past _ _ _ (by simp <;> omega), heap_at _ _ _ (by simp)]
  · rw [heap_at _ _ _ (by simp)]

theorem lt_of_heap {w : World} {k : Nat} {o : Obj} (h : w.heap[k]? = some o) : k < w.heap.size := (Array.getElem?_eq_some_iff.1 h).1

theorem TreeIn.push {B : Nat} {w : World} {t lv n d : Nat} {la ia : Value} {lb : Nat → Nat} {vs : Nat → List Int} {k : Nat} (h : TreeIn B w t lv n d la ia lb vs k) (hk : k < d + 1) (hB : B ≤ w.heap.size) :
    ∃ lb', TreeIn B ((w.setCell ⟨lv, k, none⟩ (.slice (some ⟨w.heap.size, 0, none⟩) (vs k).length (vs k).length)).alloc (.cells ((vs k).map (Value.int .i64)).toArray 2)) t lv n d la ia lb' vs (k + 1) := by
  obtain ⟨L, hL, hLs, hLk⟩ := h.row
  have ht := lt_of_heap h.top
  have hl := lt_of_heap hL
  rw [← World.setCell_alloc_past _ _ _ _ hl]
  have htl : t ≠ lv := by
    intro e
    have h1 := h.top
    rw [e, hL] at h1
    simp at h1
  have hbl : ∀ j, j < k → lb j < w.heap.size ∧ lb j ≠ lv := by
    intro j hj
    refine ⟨lt_of_heap (h.lev j hj), ?_⟩
    intro e
    have h1 := h.lev j hj
    rw [e, hL] at h1
    simp at h1
  refine ⟨fun j => if j = k then w.heap.size else lb j, ?_, ⟨L.setIfInBounds k (.slice (some ⟨w.heap.size, 0, none⟩) (vs k).length (vs k).length), ?_, by simpa using hLs, ?_⟩, ?_, ?_, h.bt, h.bl, ?_⟩
  · rw [Below.heap_setCell _ _ _ _ htl, heap_past _ _ _ ht]; exact h.top
  · exact heap_setCell_same _ lv k L 40 _ (by rw [heap_past _ _ _ hl]; exact hL)
  · intro j hj
    by_cases e : j = k
    · subst e
      simp only [↓reduceIte]
      rw [Array.getElem?_setIfInBounds_self, if_pos (by omega)]
    · simp only [if_neg e]
      rw [Array.getElem?_setIfInBounds_ne (by omega)]
      exact hLk j (by omega)
  · intro j hj
    by_cases e : j = k
    · subst e
      simp only [↓reduceIte]
      rw [Below.heap_setCell _ _ _ _ (by simp; omega), heap_at _ _ _ rfl]
    · simp only [if_neg e]
      rw [Below.heap_setCell _ _ _ _ (hbl j (by omega)).2, heap_past _ _ _ (hbl j (by omega)).1]
      exact h.lev j (by omega)
  · intro i j hi hj he
    by_cases e1 : i = k <;> by_cases e2 : j = k
    · omega
    · simp only [if_pos e1, if_neg e2] at he
      have := (hbl j (by omega)).1
      omega
    · simp only [if_neg e1, if_pos e2] at he
      have := (hbl i (by omega)).1
      omega
    · simp only [if_neg e1, if_neg e2] at he
      exact h.inj i j (by omega) (by omega) he
  · intro j hj
    by_cases e : j = k
    · simp only [if_pos e]; exact hB
    · simp only [if_neg e]; exact h.bb j (by omega)

set_option maxHeartbeats 1000000 in
set_option maxRecDepth 100000 in
theorem treeNew_any (n d : Nat) (w : World) (hn : n ≤ 6) (hd : d ≤ n) :
    Calls Yba.prog 26 #[.int .i64 n, .int .i64 d] w fun e w' => ∃ t lv la ia lb, e = .returned (.pointer (some ⟨t, 0, none⟩)) ∧ TreeIn w.heap.size w' t lv n d la ia lb (fun k => List.replicate (fall n k) 0) (d + 1) ∧ Below w.heap.size w w' := by
  have mk46 := fun W => make_small info40 Yba.underlying46 (by decide) rfl ((d : Int) + 1) ((d : Int) + 1) (d + 1) (d + 1) (by omega) (by omega) (Nat.le_refl _) (by omega) W
  have mk64 := fun W => make_small info3 Yba.underlying64 (by decide) rfl 0 (d : Int) 0 d rfl rfl (by omega) (by omega) W
  have mk42 := fun W => make_small info4 Yba.underlying42 (by decide) rfl (n : Int) (n : Int) n n rfl rfl (Nat.le_refl _) (by omega) W
  obtain ⟨L0, hL0⟩ : ∃ L0, L0 = (List.replicate (d + 1) (Value.slice none 0 0)).toArray := ⟨_, rfl⟩
  obtain ⟨L1, hL1⟩ : ∃ L0, L0 = (List.replicate d (Value.int .i64 0)).toArray := ⟨_, rfl⟩
  obtain ⟨L2, hL2⟩ : ∃ L0, L0 = (List.replicate n (Value.bool false)).toArray := ⟨_, rfl⟩
  rw [← hL0] at mk46
  rw [← hL1] at mk64
  rw [← hL2] at mk42
  have HL0 : Hid (L0 = (List.replicate (d + 1) (Value.slice none 0 0)).toArray) := hL0
  clear hL0 hL1 hL2
  go_enter Yba.func26, Yba.ntmps26
  go_wp2_with fail
  go_cut [5] (fun s wr => ∃ t lv la ia : Nat, s = .pointer (some ⟨t, 0, none⟩) ∧ wr.heap[t]? = some (.cells #[.int .i64 n, .slice (some ⟨lv, 0, none⟩) (d + 1) (d + 1), .slice (some ⟨la, 0, none⟩) 0 d, .slice (some ⟨ia, 0, none⟩) n n] 66 (0, 0)) ∧ wr.heap[lv]? = some (.cells L0 40 (0, 0)) ∧ w.heap.size ≤ t ∧ w.heap.size ≤ lv ∧ Below w.heap.size w wr)
  case first =>
    go_region
    all_goals go_wp2_with fail
    all_goals go_meet
    all_goals
      case rel =>
        obtain ⟨e0, e1, e2, e3⟩ := heap4 w _ _ _ _
        refine ⟨_, _, _, _, rfl, e3, ?_, ?_, ?_, ?_⟩
        · first | exact e0 | exact e1 | exact e2
        · omega
        · omega
        · exact ((((((Below.refl _ w).alloc (Nat.le_refl _) _).alloc (by simp) _).alloc (by simp; omega) _).alloc (by simp; omega) _)).drew
  case rest =>
    obtain ⟨t, lv, la, ia, rfl, ht, hl, bt, bl, bw⟩ := hcut
    have h0 : TreeIn w.heap.size wc t lv n d (.slice (some ⟨la, 0, none⟩) 0 d) (.slice (some ⟨ia, 0, none⟩) n n) (fun _ => 0) (fun k => List.replicate (fall n k) 0) 0 :=
      ⟨ht, ⟨L0, hl, by rw [HL0.out]; simp, fun k hk => by omega⟩, fun k hk => by omega, fun _ _ hj => by omega, bt, bl, fun k hk => by omega⟩
    obtain ⟨lb1, h1⟩ := h0.push (by omega) bw.size
    have c1 : wc.cell? ⟨t, 1, none⟩ = some (.slice (some ⟨lv, 0, none⟩) (d + 1) (d + 1)) := by rw [cell_of_row _ _ _ _ _ _ ht]; rfl
    have c2 : wc.cell? ⟨lv, 0, none⟩ = some (.slice none 0 0) := by rw [cell_of_row _ _ _ _ _ _ hl, HL0.out]; simp
    have c3 : wc.frozen? ⟨lv, 0, none⟩ = false := frozen_of_row _ _ _ _ _ hl
    have htz := lt_of_heap ht
    have hlz := lt_of_heap hl
    have mk40 := fun W => make_small info2 Yba.underlying40 (by decide) rfl 1 1 1 1 rfl rfl (Nat.le_refl _) (by omega) W
    clear h0 ht hl mk42 mk46 mk64
    go_wp2_with fail
    go_region
    go_wp2_with fail
    have b1 : Below w.heap.size w ((wc.setCell ⟨lv, 0, none⟩ (.slice (some ⟨wc.heap.size, 0, none⟩) 1 1)).alloc (.cells #[.int .i64 0] 2)).drew := ((bw.setCell bl _).alloc (by simpa using bw.size) _).drew
    have h1' : TreeIn w.heap.size ((wc.setCell ⟨lv, 0, none⟩ (.slice (some ⟨wc.heap.size, 0, none⟩) 1 1)).alloc (.cells #[.int .i64 0] 2)).drew t lv n d (.slice (some ⟨la, 0, none⟩) 0 d) (.slice (some ⟨ia, 0, none⟩) n n) lb1 (fun k => List.replicate (fall n k) 0) 1 := h1.same rfl
    clear h1 c1 c2 c3
    go_loopw [6] (fun i wr => ∃ (k : Nat) (lb : Nat → Nat), 1 ≤ k ∧ k ≤ d + 1 ∧ i = .int .i64 k ∧ TreeIn w.heap.size wr t lv n d (.slice (some ⟨la, 0, none⟩) 0 d) (.slice (some ⟨ia, 0, none⟩) n n) lb (fun k => List.replicate (fall n k) 0) k ∧ Below w.heap.size w wr) (fun i _ => d + 1 - (intOf i).toNat)
    case atStart => exact ⟨1, lb1, Nat.le_refl _, by omega, rfl, h1', b1⟩
    case round =>
      obtain ⟨k, lb, hk1, hk2, rfl, hT, bk⟩ := hrel
      clear h1' b1
      by_cases hlt : k < d + 1
      · obtain ⟨lb', hT'⟩ := hT.push hlt bk.size
        obtain ⟨L, hL, hLs, hLk⟩ := hT.row
        have c1 : wr.cell? ⟨t, 1, none⟩ = some (.slice (some ⟨lv, 0, none⟩) (d + 1) (d + 1)) := by rw [cell_of_row _ _ _ _ _ _ hT.top]; rfl
        have c2 : wr.cell? ⟨lv, k - 1, none⟩ = some (.slice (some ⟨lb (k - 1), 0, none⟩) (fall n (k - 1)) (fall n (k - 1))) := by rw [cell_of_row _ _ _ _ _ _ hL, hLk (k - 1) (by omega)]; simp
        have c3 : ∃ v, wr.cell? ⟨lv, k, none⟩ = some v := ⟨L[k], by rw [cell_of_row _ _ _ _ _ _ hL]; simp⟩
        obtain ⟨v3, c3⟩ := c3
        have c4 : wr.frozen? ⟨lv, k, none⟩ = false := frozen_of_row _ _ _ _ _ hL
        have htz := lt_of_heap hT.top
        have hlz := lt_of_heap hL
        have hm : wrap64 ((fall n (k - 1) : Int) * ((n : Int) - (k : Int) + 1)) = (fall n k : Int) := by
          obtain ⟨j, rfl⟩ : ∃ j, k = j + 1 := ⟨k - 1, by omega⟩
          have e : (n : Int) - ((j + 1 : Nat) : Int) + 1 = ((n - j : Nat) : Int) := by omega
          have h1 := fall_le n (j + 1) (by omega) (by omega)
          rw [e, Nat.add_sub_cancel, ← Int.natCast_mul]
          exact IntWalk.wrap64_in _ ⟨by omega, by simp only [fall] at h1; omega⟩
        have hf := fall_le n k (by omega) (by omega)
        have mk40 := fun W => make_small info2 Yba.underlying40 (by decide) rfl (fall n k : Int) (fall n k : Int) (fall n k) (fall n k) rfl rfl (Nat.le_refl _) (by omega) W
        have hT2 : TreeIn w.heap.size ((wr.setCell ⟨lv, k, none⟩ (.slice (some ⟨wr.heap.size, 0, none⟩) (fall n k) (fall n k))).alloc (.cells (List.replicate (fall n k) (Value.int .i64 0)).toArray 2)).drew t lv n d (.slice (some ⟨la, 0, none⟩) 0 d) (.slice (some ⟨ia, 0, none⟩) n n) lb' (fun k => List.replicate (fall n k) 0) (k + 1) := by
          have h9 := hT'.same (w' := ((wr.setCell ⟨lv, k, none⟩ (.slice (some ⟨wr.heap.size, 0, none⟩) (List.replicate (fall n k) (0 : Int)).length (List.replicate (fall n k) (0 : Int)).length)).alloc (.cells ((List.replicate (fall n k) 0).map (Value.int .i64)).toArray 2)).drew) rfl
          simpa using h9
        obtain ⟨Z, hZ⟩ : ∃ Z, Z = (List.replicate (fall n k) (Value.int .i64 0)).toArray := ⟨_, rfl⟩
        rw [← hZ] at mk40 hT2
        have b2 : Below w.heap.size w ((wr.setCell ⟨lv, k, none⟩ (.slice (some ⟨wr.heap.size, 0, none⟩) (fall n k) (fall n k))).alloc (.cells Z 2)).drew := ((bk.setCell bl _).alloc (by simpa using bk.size) _).drew
        clear hZ hT' hT hL hLk
        go_wp2_with fail
        go_region
        go_wp2_with fail
        go_roundw
        case rel => exact ⟨k + 1, lb', by omega, by omega, by go_num, hT2, b2⟩
        case measure => simp [intOf]; omega
      · go_wp2
        go_ret
        obtain rfl : k = d + 1 := by omega
        exact ⟨t, lv, _, _, lb, rfl, hT, bk⟩

end Go.Proofs.Ybulkrzw
