import Derived.Test.YbulkrzwLevel
namespace Go.Proofs.Ybulkrzw
open Go.RowKit
set_option linter.unusedVariables false

/-- w' is w but for new blocks and for the blocks of S. -/
structure KeptBut (S : Nat → Prop) (w w' : World) : Prop where
  os : w'.os = w.os
  tape : w'.tape = w.tape
  output : w'.output = w.output
  size : w.heap.size ≤ w'.heap.size
  block : ∀ g, g < w.heap.size → ¬ S g → w'.heap[g]? = w.heap[g]?

theorem KeptBut.refl (S : Nat → Prop) (w : World) : KeptBut S w w := ⟨rfl, rfl, rfl, Nat.le_refl _, fun _ _ _ => rfl⟩
theorem KeptBut.trans {S : Nat → Prop} {a b c : World} (h : KeptBut S a b) (k : KeptBut S b c) : KeptBut S a c :=
  ⟨k.os.trans h.os, k.tape.trans h.tape, k.output.trans h.output, Nat.le_trans h.size k.size, fun g hg hs => (k.block g (Nat.lt_of_lt_of_le hg h.size) hs).trans (h.block g hg hs)⟩
theorem KeptBut.mono {S T : Nat → Prop} {a b : World} (h : KeptBut S a b) (e : ∀ g, g < a.heap.size → S g → T g) : KeptBut T a b :=
  ⟨h.os, h.tape, h.output, h.size, fun g hg hs => h.block g hg (fun hs' => hs (e g hg hs'))⟩
theorem KeptBut.alloc {S : Nat → Prop} {a b : World} (h : KeptBut S a b) (o : Obj) : KeptBut S a (b.alloc o) :=
  ⟨h.os, h.tape, h.output, by have := h.size; simp; omega, fun g hg hs => (heap_past _ _ _ (Nat.lt_of_lt_of_le hg h.size)).trans (h.block g hg hs)⟩
theorem KeptBut.setCell {S : Nat → Prop} {a b : World} (h : KeptBut S a b) {p : Addr} (hp : S p.block ∨ a.heap.size ≤ p.block) (u : Value) : KeptBut S a (b.setCell p u) :=
  ⟨h.os, h.tape, h.output, by simpa [World.setCell] using h.size, fun g hg hs => (Below.heap_setCell _ _ _ _ (fun e => by rcases hp with hp | hp; exact hs (e ▸ hp); omega)).trans (h.block g hg hs)⟩
theorem KeptBut.drew {S : Nat → Prop} {a b : World} (h : KeptBut S a b) : KeptBut S a b.drew := ⟨h.os, h.tape, h.output, h.size, h.block⟩
theorem KeptBut.below {S : Nat → Prop} {a b : World} (h : KeptBut S a b) {B : Nat} (hB : B ≤ a.heap.size) (hs : ∀ g, S g → B ≤ g) : Below B a b :=
  ⟨h.os, h.tape, h.output, h.size, fun g hg => h.block g (by omega) (fun hS => by have := hs g hS; omega)⟩
theorem below_kept {S : Nat → Prop} {a b : World} (h : Below a.heap.size a b) : KeptBut S a b := ⟨h.os, h.tape, h.output, h.size, fun g hg _ => h.block g hg⟩

/-- One level resolved off the next. -/
def resLevel (n k : Nat) (next : List Int) (len : Nat) : List Int := (List.range len).map fun j => maj ((next.drop (j * (n - k))).take (n - k))
/-- The tree resolved: r levels above the leaves. -/
def resD (n d : Nat) (vs : Nat → List Int) : Nat → List Int
  | 0 => vs d
  | r + 1 => resLevel n (d - (r + 1)) (resD n d vs r) (fall n (d - (r + 1)))
def res (n d : Nat) (vs : Nat → List Int) (k : Nat) : List Int := resD n d vs (d - k)

theorem res_leaf (n d : Nat) (vs : Nat → List Int) : res n d vs d = vs d := by simp [res, resD]
theorem res_step (n d : Nat) (vs : Nat → List Int) (k : Nat) (hk : k < d) : res n d vs k = resLevel n k (res n d vs (k + 1)) (fall n k) := by
  unfold res
  obtain ⟨r, hr⟩ : ∃ r, d - k = r + 1 := ⟨d - k - 1, by omega⟩
  rw [hr, show d - (k + 1) = r from by omega]
  simp only [resD]
  rw [show d - (r + 1) = k from by omega]
theorem res_length (n d : Nat) (vs : Nat → List Int) (hs : ∀ k, k ≤ d → (vs k).length = fall n k) (k : Nat) (hk : k ≤ d) : (res n d vs k).length = fall n k := by
  by_cases e : k = d
  · subst e; rw [res_leaf]; exact hs _ hk
  · rw [res_step n d vs k (by omega)]; simp [resLevel]

/-- What decide's outer loop holds when the levels from j on are resolved. -/
def part (n d : Nat) (vs : Nat → List Int) (j : Nat) : Nat → List Int := fun i => if i < j then vs i else res n d vs i

theorem part_length (n d : Nat) (vs : Nat → List Int) (hs : ∀ k, k ≤ d → (vs k).length = fall n k) (j k : Nat) (hk : k ≤ d) : (part n d vs j k).length = fall n k := by
  unfold part
  split
  · exact hs k hk
  · exact res_length n d vs hs k hk

def procCells (n d t : Nat) (hv : Value) (dec : Bool) (val : Int) : Array Value := #[.int .i64 n, .int .i64 d, .pointer (some ⟨t, 0, none⟩), hv, .bool dec, .int .i64 val]

/-- What one round of the inner loop stores. -/
def rowAt (n d : Nat) (vs : Nat → List Int) (k i : Nat) : List Int := (res n d vs k).take i ++ (vs k).drop i

theorem row_set (n d : Nat) (vs : Nat → List Int) (hs : ∀ k, k ≤ d → (vs k).length = fall n k) (k i : Nat) (hk : k < d) (hi : i < fall n k) :
    (rowAt n d vs k i).set i (maj (((res n d vs (k + 1)).drop (i * (n - k))).take (n - k))) = rowAt n d vs k (i + 1) := by
  have hl := res_length n d vs hs k (by omega)
  have hv := hs k (by omega)
  have hx : (res n d vs k)[i]'(by omega) = maj (((res n d vs (k + 1)).drop (i * (n - k))).take (n - k)) := by
    simp only [res_step n d vs k hk, resLevel, List.getElem_map, List.getElem_range]
  unfold rowAt
  rw [List.set_append_right (i := i) _ (by simp; omega), ← hx, List.take_succ_eq_append_getElem (by omega)]
  have e : i - ((res n d vs k).take i).length = 0 := by simp; omega
  rw [e, List.drop_eq_getElem_cons (by omega), List.set_cons_zero, List.append_assoc]
  rfl

theorem row_len (n d : Nat) (vs : Nat → List Int) (hs : ∀ k, k ≤ d → (vs k).length = fall n k) (k i : Nat) (hk : k < d) (hi : i ≤ fall n k) : (rowAt n d vs k i).length = fall n k := by
  have hl := res_length n d vs hs k (by omega)
  have hv := hs k (by omega)
  unfold rowAt
  simp; omega

set_option maxHeartbeats 2000000 in
set_option maxRecDepth 100000 in
theorem decide_any {B : Nat} {w : World} {t lv n d : Nat} {la ia : Value} {lb : Nat → Nat} {vs : Nat → List Int} (p : Nat) (hv : Value) (dec : Bool) (val : Int)
    (hT : TreeIn B w t lv n d la ia lb vs (d + 1)) (hs : ∀ k, k ≤ d → (vs k).length = fall n k) (hp : w.heap[p]? = some (.cells (procCells n d t hv dec val) 44 (0, 0))) (hn : n ≤ 6) (hd : d ≤ n) :
    Calls Yba.prog 18 #[.pointer (some ⟨p, 0, none⟩)] w fun e w' => e = .returned (.tuple #[]) ∧ TreeIn B w' t lv n d la ia lb (res n d vs) (d + 1) ∧
      w'.heap[p]? = some (.cells (procCells n d t hv true ((res n d vs 0).getD 0 0)) 44 (0, 0)) ∧ KeptBut (fun g => g = p ∨ ∃ k, k < d + 1 ∧ g = lb k) w w' := by
  have hT0 : TreeIn B w t lv n d la ia lb (part n d vs d) (d + 1) := hT.congr (fun k hk => by
    unfold part
    split
    · rfl
    · rw [show k = d from by omega, res_leaf])
  have p1 : w.cell? ⟨p, 1, none⟩ = some (.int .i64 d) := by rw [cell_of_row _ _ _ _ _ _ hp]; rfl
  have HP : Hid (w.heap[p]? = some (.cells (procCells n d t hv dec val) 44 (0, 0))) := hp
  have HS : Hid (∀ k, k ≤ d → (vs k).length = fall n k) := hs
  clear hp hs hT
  go_enter Yba.func18, Yba.ntmps18
  go_wp2_with fail
  go_loopw [2] (fun i wr => ∃ j : Nat, j ≤ d ∧ i = .int .i64 ((j : Int) - 1) ∧ TreeIn B wr t lv n d la ia lb (part n d vs j) (d + 1) ∧ wr.heap[p]? = some (.cells (procCells n d t hv dec val) 44 (0, 0)) ∧ KeptBut (fun g => g = p ∨ ∃ k, k < d + 1 ∧ g = lb k) w wr) (fun i _ => (intOf i + 1).toNat)
  case atStart => exact ⟨d, Nat.le_refl _, rfl, hT0, HP.out, KeptBut.refl _ _⟩
  case round =>
    obtain ⟨j, hj, rfl, hT1, hp1, kb1⟩ := hrel
    have q2 : wr.cell? ⟨p, 2, none⟩ = some (.pointer (some ⟨t, 0, none⟩)) := by rw [cell_of_row _ _ _ _ _ _ hp1]; rfl
    by_cases hj0 : j = 0
    · subst hj0
      rw [show (((0 : Nat) : Int) - 1) = -1 from rfl]
      have hres : TreeIn B wr t lv n d la ia lb (res n d vs) (d + 1) := hT1.congr (fun k hk => by simp [part])
      have hlen := res_length n d vs HS.out 0 (by omega)
      have hc := hres.cells.2.2.2.1 0 (by omega) 0 (by rw [hlen]; simp [fall])
      have hlev := level_any hres (Nat.le_refl _) (by omega) 0 0 rfl (by omega)
      rw [hlen] at hlev
      simp only [fall] at hlev
      generalize hx : (res n d vs 0).getD 0 0 = x at *
      have HX : Hid ((res n d vs 0).getD 0 0 = x) := hx
      clear hx
      have q4 : wr.cell? ⟨p, 4, none⟩ = some (.bool dec) := by rw [cell_of_row _ _ _ _ _ _ hp1]; rfl
      have q5 : wr.cell? ⟨p, 5, none⟩ = some (.int .i64 val) := by rw [cell_of_row _ _ _ _ _ _ hp1]; rfl
      have f4 : wr.frozen? ⟨p, 4, none⟩ = false := frozen_of_row _ _ _ _ _ hp1
      have f5 : wr.frozen? ⟨p, 5, none⟩ = false := frozen_of_row _ _ _ _ _ hp1
      have hap := hres.apart hp1 (by decide) (by decide) (by decide)
      have fin : TreeIn B ((wr.setCell ⟨p, 4, none⟩ (.bool true)).setCell ⟨p, 5, none⟩ (.int .i64 x)) t lv n d la ia lb (res n d vs) (d + 1) := hres.kept (fun g hg hgs => by
        have hne : g ≠ p := by
          rcases hgs with h | h | ⟨k, hk, h⟩
          · rw [h]; exact hap.1.symm
          · rw [h]; exact hap.2.1.symm
          · rw [h]; exact (hap.2.2 k hk).symm
        rw [Below.heap_setCell _ _ _ _ hne, Below.heap_setCell _ _ _ _ hne])
      have finp : ((wr.setCell ⟨p, 4, none⟩ (.bool true)).setCell ⟨p, 5, none⟩ (.int .i64 x)).heap[p]? = some (.cells (procCells n d t hv true x) 44 (0, 0)) := by
        rw [heap_setCell_same _ _ _ _ _ _ (heap_setCell_same _ _ _ _ _ _ hp1)]
        rfl
      have fink : KeptBut (fun g => g = p ∨ ∃ k, k < d + 1 ∧ g = lb k) w ((wr.setCell ⟨p, 4, none⟩ (.bool true)).setCell ⟨p, 5, none⟩ (.int .i64 x)) := (kb1.setCell (.inl (.inl rfl)) _).setCell (.inl (.inl rfl)) _
      clear hT1 hp1 kb1 hres hap hlen
      go_wp2_with (go_at_call 15; refine hlev.mono ?_; rintro e w2 ⟨rfl, rfl⟩)
      go_end0
      exact ⟨rfl, fin, by rw [HX.out]; exact finp, fink⟩
    · obtain ⟨k, rfl⟩ : ∃ k, j = k + 1 := ⟨j - 1, by omega⟩
      rw [show (((k + 1 : Nat) : Int) - 1) = (k : Int) from by omega]
      clear hj0
      have hlk : (part n d vs (k + 1) k).length = fall n k := part_length n d vs HS.out (k + 1) k (by omega)
      have hlev := level_any hT1 (Nat.le_refl _) (by omega) (k : Int) k rfl (by omega)
      rw [hlk] at hlev
      have hfl := fall_le n k (by omega) (by omega)
      have hT2 : TreeIn B wr t lv n d la ia lb (upd (part n d vs (k + 1)) k (rowAt n d vs k 0)) (d + 1) := hT1.congr (fun i hi => by
        by_cases e : i = k
        · subst e; rw [upd_at]; simp [rowAt, part]
        · rw [upd_ne _ _ _ e])
      clear hT1
      go_wp2_with (go_at_call 15; refine hlev.mono ?_; rintro e w2 ⟨rfl, hw2⟩; have hw3 := hw2.symm; subst hw3; clear hw2)
      clear hlev q2
      go_loopw [22] (fun c wq => ∃ i : Nat, i ≤ fall n k ∧ c = .int .i64 i ∧ TreeIn B wq t lv n d la ia lb (upd (part n d vs (k + 1)) k (rowAt n d vs k i)) (d + 1) ∧ wq.heap[p]? = some (.cells (procCells n d t hv dec val) 44 (0, 0)) ∧ KeptBut (fun g => g = p ∨ ∃ k, k < d + 1 ∧ g = lb k) w wq) (fun c _ => fall n k - (intOf c).toNat)
      case atStart => exact ⟨0, Nat.zero_le _, rfl, hT2, hp1, kb1⟩
      case round =>
        obtain ⟨i, hi, rfl, hT3, hp3, kb3⟩ := hrel
        clear hT2 hp1 kb1
        by_cases hlt : i < fall n k
        · have q2 := (cell_of_row _ _ 2 _ _ _ hp3)
          have q2' : wr.cell? ⟨p, 2, none⟩ = some (.pointer (some ⟨t, 0, none⟩)) := by rw [q2]; rfl
          clear q2
          have eR : upd (part n d vs (k + 1)) k (rowAt n d vs k i) (k + 1) = res n d vs (k + 1) := by rw [upd_ne _ _ _ (by omega)]; simp [part]
          have hR := res_length n d vs HS.out (k + 1) (by omega)
          have hR7 := fall_le n (k + 1) (by omega) (by omega)
          have hfs : fall n (k + 1) = fall n k * (n - k) := rfl
          have hmul : (i + 1) * (n - k) ≤ fall n (k + 1) := by rw [hfs]; exact Nat.mul_le_mul_right _ (by omega)
          have hml2 : (i + 1) * (n - k) = i * (n - k) + (n - k) := by rw [Nat.add_mul, Nat.one_mul]
          have hch := children_any hT3 (Nat.le_refl _) (by omega) hn hd k i (by omega) (by omega) (by rw [eR, hR]; exact hmul) (by rw [eR, hR]; exact hR7)
          rw [eR, hR] at hch
          have hcR : ∀ x, x < n - k → wr.cell? ⟨lb (k + 1), i * (n - k) + x, none⟩ = some (.int .i64 ((((res n d vs (k + 1)).drop (i * (n - k))).take (n - k)).getD x 0)) := by
            intro x hx
            have h1 := hT3.cells.2.2.2.1 (k + 1) (by omega) (i * (n - k) + x) (by rw [eR, hR]; omega)
            rw [h1, eR]
            have h2 : x < n - k := hx
            simp [List.getD, h2, List.getElem?_drop]
          have hlX : ((((res n d vs (k + 1)).drop (i * (n - k))).take (n - k))).length = n - k := by
            rw [List.length_take, List.length_drop, hR]; omega
          have hmj := majority_any (lb (k + 1)) (i * (n - k)) (n - k) (fall n (k + 1) - i * (n - k)) _ wr hlX (by omega) hcR
          have hst := hT3.store (k := k) (j := i) (by omega) (maj (((res n d vs (k + 1)).drop (i * (n - k))).take (n - k)))
          rw [upd_at, row_set n d vs HS.out k i (by omega) hlt] at hst
          have hst2 := hst.congr (vs' := upd (part n d vs (k + 1)) k (rowAt n d vs k (i + 1))) (fun x hx => by
            by_cases e : x = k
            · subst e; rw [upd_at, upd_at]
            · rw [upd_ne _ _ _ e, upd_ne _ _ _ e, upd_ne _ _ _ e])
          have hcc := hT3.cells.2.2.2.1 k (by omega) i (by rw [upd_at, row_len n d vs HS.out k i (by omega) hi]; exact hlt)
          have hff := hT3.cells.2.2.2.2 k (by omega) i
          have hap := (hT3.apart hp3 (by decide) (by decide) (by decide)).2.2 k (by omega)
          generalize maj (((res n d vs (k + 1)).drop (i * (n - k))).take (n - k)) = X at *
          have hp4 : (wr.setCell ⟨lb k, i, none⟩ (.int .i64 X)).heap[p]? = some (.cells (procCells n d t hv dec val) 44 (0, 0)) := by rw [Below.heap_setCell _ _ _ _ hap]; exact hp3
          have kb4 : KeptBut (fun g => g = p ∨ ∃ k, k < d + 1 ∧ g = lb k) w (wr.setCell ⟨lb k, i, none⟩ (.int .i64 X)) := kb3.setCell (.inl (.inr ⟨k, by omega, rfl⟩)) _
          clear hst hT3 hp3 kb3 hap hcR hlX eR hR hmul hfs hml2
          generalize (upd (part n d vs (k + 1)) k (rowAt n d vs k i) k).getD i 0 = old at hcc
          generalize i * (n - k) = lo at *
          go_wp2_with (first | (go_at_call 28; refine hch.mono ?_; rintro e w2 ⟨rfl, hw2⟩; have hw3 := hw2.symm; subst hw3; clear hw2) | (go_at_call 27; refine hmj.mono ?_; rintro e w2 ⟨rfl, hw2⟩; have hw3 := hw2.symm; subst hw3; clear hw2))
          go_roundw
          case rel => exact ⟨i + 1, by omega, by go_num, hst2, hp4, kb4⟩
          case measure => simp [intOf]; omega
        · obtain rfl : i = fall n k := by omega
          have hT5 : TreeIn B wr t lv n d la ia lb (part n d vs k) (d + 1) := hT3.congr (fun x hx => by
            by_cases e : x = k
            · subst e
              rw [upd_at]
              have h1 := res_length n d vs HS.out x (by omega)
              have h2 := HS.out x (by omega)
              unfold rowAt part
              rw [if_neg (by omega), List.take_of_length_le (by omega), List.drop_eq_nil_of_le (by omega), List.append_nil]
            · rw [upd_ne _ _ _ e]
              unfold part
              by_cases e2 : x < k
              · rw [if_pos (by omega), if_pos e2]
              · rw [if_neg (by omega), if_neg e2])
          clear hT3
          go_wp2_with fail
          go_roundw
          case rel => exact ⟨k, by omega, by go_num, hT5, hp3, kb3⟩
          case measure => simp [intOf]

end Go.Proofs.Ybulkrzw
