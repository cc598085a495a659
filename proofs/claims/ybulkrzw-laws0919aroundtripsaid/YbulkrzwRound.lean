import Derived.Test.YbulkrzwRead
import Derived.Laws.BytesArg
namespace Go.Proofs.Ybulkrzw
open Go.RowKit
set_option linter.unusedVariables false

theorem conv_zero (w : World) (p : Option Addr) (c : Nat) : (convert 22 9 (.slice p 0 c)).run Yba.prog w = .ok (.string (strOfNums [])) w := by
  rw [run_convert_bytes_string w 22 9 5 _ 0 c Yba.underlying22 Yba.underlying5 Yba.underlying9]
  cases p <;> simp [Conv.bytesToString, loadCells]
  all_goals rfl

theorem conv_at (w : World) (b off len cap : Nat) (xs : List Int) (hl : xs.length = len) (hcell : ∀ i, i < len → w.cell? ⟨b, off + i, none⟩ = some (.int .u8 (xs.getD i 0))) :
    (convert 22 9 (.slice (some ⟨b, off, none⟩) len cap)).run Yba.prog w = .ok (.string (strOfNums xs)) w :=
  run_convert_bytes_arg w 22 5 Yba.underlying22 Yba.underlying5 b off len cap xs hl hcell 9 Yba.underlying9

set_option maxHeartbeats 400000 in
theorem equal_any (a1 a2 : Option Addr) (l1 l2 c1 c2 : Nat) (s : ByteArray) (w : World) (h1 : (convert 22 9 (.slice a1 l1 c1)).run Yba.prog w = .ok (.string s) w) (h2 : (convert 22 9 (.slice a2 l2 c2)).run Yba.prog w = .ok (.string s) w) :
    Calls Yba.prog 12 #[.slice a1 l1 c1, .slice a2 l2 c2] w fun e w' => e = .returned (.bool true) ∧ w' = w := by
  go_enter Yba.func12, Yba.ntmps12
  go_wp2
  go_ret
  exact ⟨rfl, rfl⟩

theorem be4_spells (v : Int) (h0 : 0 ≤ v) (h1 : v ≤ 4294967295) : v % 256 + v / 256 % 256 * 256 + v / 65536 % 256 * 65536 + v / 16777216 * 16777216 = v := by omega

/-- What lies where in a message of its own. -/
theorem msg_cells (L3 : Nat) (z3 : List Int) (kd num : Int) (h3 : (z3.take L3).length = L3) (h3' : L3 ≤ z3.length) (hn : 0 ≤ num ∧ num ≤ 4294967295) (cell : Nat → Option Value)
    (h : ∀ j, j < 9 + L3 → cell j = ((msg kd num (z3.take L3)).map (Value.int .u8))[j]?) :
    cell 0 = some (.int .u8 kd) ∧ cell 1 = some (.int .u8 (num / 16777216)) ∧ cell 2 = some (.int .u8 (num / 65536 % 256)) ∧ cell 3 = some (.int .u8 (num / 256 % 256)) ∧ cell 4 = some (.int .u8 (num % 256)) ∧
    cell 5 = some (.int .u8 ((L3 : Int) / 16777216)) ∧ cell 6 = some (.int .u8 ((L3 : Int) / 65536 % 256)) ∧ cell 7 = some (.int .u8 ((L3 : Int) / 256 % 256)) ∧ cell 8 = some (.int .u8 ((L3 : Int) % 256)) ∧
      ∀ k, k < L3 → cell (9 + k) = some (.int .u8 ((z3.take L3).getD k 0)) := by
  have e : num % 4294967296 = num := by omega
  refine ⟨?_, ?_, ?_, ?_, ?_, ?_, ?_, ?_, ?_, fun k hk => ?_⟩
  · rw [h 0 (by omega)]; simp [msg]
  · rw [h 1 (by omega)]; simp [msg, be4, e]
  · rw [h 2 (by omega)]; simp [msg, be4, e]
  · rw [h 3 (by omega)]; simp [msg, be4, e]
  · rw [h 4 (by omega)]; simp [msg, be4]
  · rw [h 5 (by omega)]; simp [msg, be4, h3']
  · rw [h 6 (by omega)]; simp [msg, be4, h3']
  · rw [h 7 (by omega)]; simp [msg, be4, h3']
  · rw [h 8 (by omega)]; simp [msg, be4, h3']
  · rw [h _ (by omega), show 9 + k = k + 9 from by omega]
    have : k < z3.length := by omega
    simp [msg, be4, hk, this]

set_option maxHeartbeats 1000000 in
set_option maxRecDepth 100000 in
theorem round_walk (a0 : Int) (a1 : Int) (a2 : Option Addr) (len2 cap2 : Nat) (z2 : List Int) (w : World) (w0 : (Lit.int .u8 a0).wf = true) (w1 : (Lit.int .i64 a1).wf = true) (w2 : RowIn .u8 w a2 len2 cap2 z2) :
    Calls Yba.prog 4 #[.int .u8 a0, .int .i64 a1, .slice a2 len2 cap2] w fun e w' => e = .returned (.bool true) ∧ Below w.heap.size w w' := by
  obtain ⟨f31, f32, f33, f34⟩ := w2.facts
  have bk := bounds_u8 w0
  have b1 := bounds_i64 w1
  by_cases h3 : 1024 < len2
  · go_enter Yba.func4, Yba.ntmps4
    go_wp2
    go_ret
    exact ⟨rfl, Below.refl _ _⟩
  by_cases h0 : a1 < 0
  · go_enter Yba.func4, Yba.ntmps4
    go_wp2
    go_ret
    exact ⟨rfl, Below.refl _ _⟩
  by_cases h1 : 4294967295 < a1
  · go_enter Yba.func4, Yba.ntmps4
    go_wp2
    go_ret
    exact ⟨rfl, Below.refl _ _⟩
  have hn : 0 ≤ a1 ∧ a1 ≤ 4294967295 := by omega
  go_enter Yba.func4, Yba.ntmps4
  go_wp2_with fail
  refine (appendMessage_any w.heap.size 0 a0 a1 w0 _ [] a2 len2 cap2 (z2.take len2) w (World.ownsRow_nil _ _ _ _) (Nat.le_refl _) (by omega) f31 (by omega) f33 f34).mono ?_
  rintro e wc ⟨vc, rfl, hownc, bc⟩
  have hvc : ∃ g cap, vc = .slice (some ⟨g, 0, none⟩) (9 + len2) cap ∧ 9 + len2 ≤ cap ∧ cap ≤ maxLen := by
    rcases hownc.2 with ⟨_, h⟩ | ⟨g, cap, cur, hv, _, _, hnc, hcm, _⟩
    · omega
    · exact ⟨g, cap, by simpa using hv, by omega, hcm⟩
  obtain ⟨g, cap, hvc, hcap, hcm⟩ := hvc
  simp only [Nat.zero_add, List.nil_append] at hownc
  rw [hvc] at hownc ⊢
  clear hvc
  have hgc : w.heap.size ≤ g ∧ g < wc.heap.size := hownc.lt g rfl
  obtain ⟨k0, k1, k2, k3, k4, k5, k6, k7, k8, kp⟩ := msg_cells len2 z2 a0 a1 f31 f32 hn (fun j => wc.cell? ⟨g, j, none⟩) (fun j hj => hownc.cellAt j (by omega))
  have hpl := payloadLength_any g (9 + len2) cap _ _ _ _ wc (by omega) hcap hcm ⟨by omega, by omega⟩ ⟨by omega, by omega⟩ ⟨by omega, by omega⟩ ⟨by omega, by omega⟩ k5 k6 k7 k8
  rw [be4_spells len2 (by omega) (by omega)] at hpl
  clear hownc k5 k6 k7 k8
  go_wp2_with fail
  refine hpl.mono ?_
  rintro e wd ⟨rfl, bd⟩
  clear hpl
  have hsd := bd.size
  have hgd : g < wd.heap.size := by omega
  have m0 := (bd.cell (p := ⟨g, 0, none⟩) hgc.2).trans k0
  have m1 := (bd.cell (p := ⟨g, 1, none⟩) hgc.2).trans k1
  have m2 := (bd.cell (p := ⟨g, 2, none⟩) hgc.2).trans k2
  have m3 := (bd.cell (p := ⟨g, 3, none⟩) hgc.2).trans k3
  have m4 := (bd.cell (p := ⟨g, 4, none⟩) hgc.2).trans k4
  have mp : ∀ k, k < len2 → wd.cell? ⟨g, 9 + k, none⟩ = some (.int .u8 ((z2.take len2).getD k 0)) := fun k hk => (bd.cell (p := ⟨g, 9 + k, none⟩) hgc.2).trans (kp k hk)
  have bd' : Below w.heap.size w wd := bc.trans (bd.mono (by omega))
  clear k0 k1 k2 k3 k4 kp bc bd
  have hu := fun (W : World) (hW : Below wd.heap.size wd W) pa pl pc => parseHeader_any g 9 cap a0 _ _ _ _ pa pl pc W (Nat.lt_of_lt_of_le hgd hW.size) (by omega) (by omega) hcm ⟨by omega, by omega⟩ ⟨by omega, by omega⟩ ⟨by omega, by omega⟩ ⟨by omega, by omega⟩ ((hW.cell (p := ⟨g, 0, none⟩) hgd).trans m0) ((hW.cell (p := ⟨g, 1, none⟩) hgd).trans m1) ((hW.cell (p := ⟨g, 2, none⟩) hgd).trans m2) ((hW.cell (p := ⟨g, 3, none⟩) hgd).trans m3) ((hW.cell (p := ⟨g, 4, none⟩) hgd).trans m4)
  rw [be4_spells a1 (by omega) (by omega)] at hu
  have HU : Hid (∀ W, Below wd.heap.size wd W → ∀ pa pl pc, Calls Yba.prog 11 #[.slice (some ⟨g, 0, none⟩) 9 cap, .slice pa pl pc] W fun e w' => e = .returned (.agg #[.int .i64 a1, .int .u8 a0, .slice pa pl pc]) ∧
      (∀ o, wd.heap.size < W.heap.size → w'.cell? ⟨wd.heap.size, o, none⟩ = W.cell? ⟨wd.heap.size, o, none⟩) ∧ (∀ o, wd.heap.size < W.heap.size → w'.frozen? ⟨wd.heap.size, o, none⟩ = W.frozen? ⟨wd.heap.size, o, none⟩) ∧ W.heap.size ≤ w'.heap.size ∧ Below wd.heap.size wd w') :=
    fun W hW pa pl pc => (hu W hW pa pl pc).mono fun e w' ⟨h1, h2⟩ => ⟨h1, fun o h => h2.cell (p := ⟨wd.heap.size, o, none⟩) h, fun o h => h2.frozen (p := ⟨wd.heap.size, o, none⟩) h, h2.size, hW.trans (h2.mono hW.size)⟩
  clear hu m0 m1 m2 m3 m4
  have hA : Below wd.heap.size wd wd.drew := (Below.refl _ _).drew
  have hB : Below wd.heap.size wd (wd.alloc (.cells #[.int .i64 0, .int .u8 0, .slice none 0 0] 26)).drew := ((Below.refl _ _).alloc (Nat.le_refl _) _).drew
  unfold maxLen at hcm
  have h2 : ∀ W, Below wd.heap.size wd W → (convert 22 9 (.slice a2 len2 cap2)).run Yba.prog W = .ok (.string (strOfNums (z2.take len2))) W := by
    intro W hW
    by_cases hl0 : len2 = 0
    · subst hl0; exact conv_zero W a2 cap2
    · obtain ⟨b, off, rfl, hcl, hbl⟩ := w2.at (by omega)
      refine conv_at W b off len2 cap2 _ f31 (fun j hj => ?_)
      rw [hW.cell (p := ⟨b, off + j, none⟩) (by have := bd'.size; simp; omega), bd'.cell (p := ⟨b, off + j, none⟩) hbl, hcl j hj]
      have hjz : j < z2.length := by omega
      simp [List.getD, hj, hjz]
  have EQ : Hid (∀ W, Below wd.heap.size wd W → ∀ a1 c1, (convert 22 9 (.slice a1 len2 c1)).run Yba.prog W = .ok (.string (strOfNums (z2.take len2))) W → Calls Yba.prog 12 #[.slice a1 len2 c1, .slice a2 len2 cap2] W fun e w' => e = .returned (.bool true) ∧ Below wd.heap.size wd w') :=
    fun W hW a1 c1 hcv => (equal_any a1 a2 len2 len2 c1 cap2 _ W hcv (h2 W hW)).mono fun e w' ⟨h1, hw⟩ => ⟨h1, hw ▸ hW⟩
  clear h2
  by_cases hc9 : cap = 9
  · have hl0 : len2 = 0 := by omega
    subst hc9
    subst hl0
    have EQ0 : Hid (∀ W, Below wd.heap.size wd W → ∀ a1 c1, Calls Yba.prog 12 #[.slice a1 0 c1, .slice a2 0 cap2] W fun e w' => e = .returned (.bool true) ∧ Below wd.heap.size wd w') := fun W hW a1 c1 => EQ.out W hW a1 c1 (conv_zero W a1 c1)
    go_wp2_with fail
    go_region_with (go_at_call 11; refine (HU.out _ ?_ _ _ _).mono ?_; (first | exact hA | exact hB); rintro e w5 ⟨rfl, r1, r2, r3, b6⟩)
    all_goals go_wp2_with fail
    all_goals
      refine (EQ0.out _ ?_ _ _).mono ?_
      · first | exact b6.alloc b6.size _ | exact ((b6.setCell (Nat.le_refl _) _).setCell (Nat.le_refl _) _).setCell (Nat.le_refl _) _
      rintro e w6 ⟨rfl, b7⟩
      clear r1 r2 r3 b6
      go_wp2
      go_ret
      exact ⟨rfl, bd'.trans (b7.mono bd'.size)⟩
  · have EQ1 : Hid (∀ W, Below wd.heap.size wd W → Calls Yba.prog 12 #[.slice (some ⟨g, 9, none⟩) len2 (cap - 9), .slice a2 len2 cap2] W fun e w' => e = .returned (.bool true) ∧ Below wd.heap.size wd w') := fun W hW => EQ.out W hW _ _ (conv_at W g 9 len2 (cap - 9) _ f31 (fun j hj => (hW.cell (p := ⟨g, 9 + j, none⟩) hgd).trans (mp j hj)))
    go_wp2_with fail
    go_region_with (go_at_call 11; refine (HU.out _ ?_ _ _ _).mono ?_; (first | exact hA | exact hB); rintro e w5 ⟨rfl, r1, r2, r3, b6⟩)
    all_goals go_wp2_with fail
    all_goals
      refine (EQ1.out _ ?_).mono ?_
      · first | exact b6.alloc b6.size _ | exact ((b6.setCell (Nat.le_refl _) _).setCell (Nat.le_refl _) _).setCell (Nat.le_refl _) _
      rintro e w6 ⟨rfl, b7⟩
      clear r1 r2 r3 b6
      go_wp2
      go_ret
      exact ⟨rfl, bd'.trans (b7.mono bd'.size)⟩

end Go.Proofs.Ybulkrzw
