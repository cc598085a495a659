import Derived.Test.YbulkrzwWireWalk
import Derived.Lib.EndianBits
import Derived.RegionTactic
import Derived.Deep.RegionWith
namespace Go.Proofs.Ybulkrzw
open Go.RowKit
set_option linter.unusedVariables false

set_option maxHeartbeats 1000000 in
set_option maxRecDepth 100000 in
theorem u32_any (g o n c : Nat) (z0 z1 z2 z3 : Int) (w : World) (hn : 4 ≤ n) (b0 : 0 ≤ z0 ∧ z0 ≤ 255) (b1 : 0 ≤ z1 ∧ z1 ≤ 255) (b2 : 0 ≤ z2 ∧ z2 ≤ 255) (b3 : 0 ≤ z3 ∧ z3 ≤ 255)
    (c0 : w.cell? ⟨g, o, none⟩ = some (.int .u8 z0)) (c1 : w.cell? ⟨g, o + 1, none⟩ = some (.int .u8 z1)) (c2 : w.cell? ⟨g, o + 2, none⟩ = some (.int .u8 z2)) (c3 : w.cell? ⟨g, o + 3, none⟩ = some (.int .u8 z3)) :
    Calls Yba.prog 24 #[.agg #[], .slice (some ⟨g, o, none⟩) n c] w fun e w' => e = .returned (.int .u32 (z3 + z2 * 256 + z1 * 65536 + z0 * 16777216)) ∧ Below w.heap.size w w' := by
  have d0 := cell_alloc_old (.cells #[] 60) c0
  have d1 := cell_alloc_old (.cells #[] 60) c1
  have d2 := cell_alloc_old (.cells #[] 60) c2
  have d3 := cell_alloc_old (.cells #[] 60) c3
  obtain ⟨b00, b01⟩ := b0
  obtain ⟨b10, b11⟩ := b1
  obtain ⟨b20, b21⟩ := b2
  obtain ⟨b30, b31⟩ := b3
  have hn1 : (1 : Int) < (n : Int) := by omega
  have hn2 : (2 : Int) < (n : Int) := by omega
  have hn3 : (3 : Int) < (n : Int) := by omega
  have hn0 : 0 < n := by omega
  go_enter Yba.func24, Yba.ntmps24
  go_wp2_with fail
  go_quiet (fail)
  go_wp2
  go_ret
  refine ⟨?_, ?_⟩
  · simp (disch := omega) only [u32_or8, u32_or16, u32_or24]
    rfl
  · exact ⟨rfl, rfl, rfl, by simp, fun k hk => Below.heap_alloc w _ k hk⟩

set_option maxHeartbeats 1000000 in
set_option maxRecDepth 100000 in
/-- payloadLength: the number that bytes 5 to 8 spell. -/
theorem payloadLength_any (g n c : Nat) (z0 z1 z2 z3 : Int) (w : World) (hn : 9 ≤ n) (hnc : n ≤ c) (hc : c ≤ maxLen) (b0 : 0 ≤ z0 ∧ z0 ≤ 255) (b1 : 0 ≤ z1 ∧ z1 ≤ 255) (b2 : 0 ≤ z2 ∧ z2 ≤ 255) (b3 : 0 ≤ z3 ∧ z3 ≤ 255)
    (c0 : w.cell? ⟨g, 5, none⟩ = some (.int .u8 z0)) (c1 : w.cell? ⟨g, 6, none⟩ = some (.int .u8 z1)) (c2 : w.cell? ⟨g, 7, none⟩ = some (.int .u8 z2)) (c3 : w.cell? ⟨g, 8, none⟩ = some (.int .u8 z3)) :
    Calls Yba.prog 10 #[.slice (some ⟨g, 0, none⟩) n c] w fun e w' => e = .returned (.int .i64 (z3 + z2 * 256 + z1 * 65536 + z0 * 16777216)) ∧ Below w.heap.size w w' := by
  unfold maxLen at hc
  have hu := u32_any g 5 (n - 5) (c - 5) z0 z1 z2 z3 w.drew (by omega) b0 b1 b2 b3 c0 c1 c2 c3
  have hc5 : ¬ c = 5 := by omega
  have h5 : (5 : Int) ≤ (n : Int) := by omega
  go_enter Yba.func10, Yba.ntmps10
  go_wp2_with fail
  go_region_with (go_at_call 24; refine hu.mono ?_; rintro e w2 ⟨rfl, hb⟩)
  go_wp2
  go_ret
  refine ⟨?_, ⟨hb.os, hb.tape, hb.output, hb.size, hb.block⟩⟩
  have e : IntKind.i64.wrap (z3 + z2 * 256 + z1 * 65536 + z0 * 16777216) = z3 + z2 * 256 + z1 * 65536 + z0 * 16777216 := by
    exact IntWalk.i64_in _ (by omega)
  simp only [e]
  rfl

set_option maxHeartbeats 1000000 in
set_option maxRecDepth 100000 in
/-- instanceOf: the number that bytes 1 to 4 spell. -/
theorem numOf_any (g n c : Nat) (z0 z1 z2 z3 : Int) (w : World) (hn : 9 ≤ n) (hnc : n ≤ c) (hc : c ≤ maxLen) (b0 : 0 ≤ z0 ∧ z0 ≤ 255) (b1 : 0 ≤ z1 ∧ z1 ≤ 255) (b2 : 0 ≤ z2 ∧ z2 ≤ 255) (b3 : 0 ≤ z3 ∧ z3 ≤ 255)
    (c0 : w.cell? ⟨g, 1, none⟩ = some (.int .u8 z0)) (c1 : w.cell? ⟨g, 2, none⟩ = some (.int .u8 z1)) (c2 : w.cell? ⟨g, 3, none⟩ = some (.int .u8 z2)) (c3 : w.cell? ⟨g, 4, none⟩ = some (.int .u8 z3)) :
    Calls Yba.prog 25 #[.slice (some ⟨g, 0, none⟩) n c] w fun e w' => e = .returned (.int .i64 (z3 + z2 * 256 + z1 * 65536 + z0 * 16777216)) ∧ Below w.heap.size w w' := by
  unfold maxLen at hc
  have hu := u32_any g 1 (n - 1) (c - 1) z0 z1 z2 z3 w.drew (by omega) b0 b1 b2 b3 c0 c1 c2 c3
  have hc5 : ¬ c = 1 := by omega
  have h5 : (1 : Int) ≤ (n : Int) := by omega
  go_enter Yba.func25, Yba.ntmps25
  go_wp2_with fail
  go_region_with (go_at_call 24; refine hu.mono ?_; rintro e w2 ⟨rfl, hb⟩)
  go_wp2
  go_ret
  refine ⟨?_, ⟨hb.os, hb.tape, hb.output, hb.size, hb.block⟩⟩
  have e : IntKind.i64.wrap (z3 + z2 * 256 + z1 * 65536 + z0 * 16777216) = z3 + z2 * 256 + z1 * 65536 + z0 * 16777216 := by
    exact IntWalk.i64_in _ (by omega)
  simp only [e]
  rfl

set_option maxHeartbeats 1000000 in
set_option maxRecDepth 100000 in
/-- parseHeader: the number of bytes 1 to 4, the byte 0, and the payload as it was handed over. -/
theorem parseHeader_any (g n c : Nat) (kd z0 z1 z2 z3 : Int) (pa : Option Addr) (pl pc : Nat) (w : World) (hg : g < w.heap.size) (hn : 9 ≤ n) (hnc : n ≤ c) (hc : c ≤ maxLen) (b0 : 0 ≤ z0 ∧ z0 ≤ 255) (b1 : 0 ≤ z1 ∧ z1 ≤ 255) (b2 : 0 ≤ z2 ∧ z2 ≤ 255) (b3 : 0 ≤ z3 ∧ z3 ≤ 255)
    (ck : w.cell? ⟨g, 0, none⟩ = some (.int .u8 kd)) (c0 : w.cell? ⟨g, 1, none⟩ = some (.int .u8 z0)) (c1 : w.cell? ⟨g, 2, none⟩ = some (.int .u8 z1)) (c2 : w.cell? ⟨g, 3, none⟩ = some (.int .u8 z2)) (c3 : w.cell? ⟨g, 4, none⟩ = some (.int .u8 z3)) :
    Calls Yba.prog 11 #[.slice (some ⟨g, 0, none⟩) n c, .slice pa pl pc] w fun e w' => e = .returned (.agg #[.int .i64 (z3 + z2 * 256 + z1 * 65536 + z0 * 16777216), .int .u8 kd, .slice pa pl pc]) ∧ Below w.heap.size w w' := by
  have hu := numOf_any g n c z0 z1 z2 z3 (w.alloc (.cells #[.int .i64 0, .int .u8 0, .slice none 0 0] 26)).drew hn hnc hc b0 b1 b2 b3 (cell_alloc_old _ c0) (cell_alloc_old _ c1) (cell_alloc_old _ c2) (cell_alloc_old _ c3)
  have facts : ∀ w2, Below (w.alloc (.cells #[.int .i64 0, .int .u8 0, .slice none 0 0] 26)).drew.heap.size (w.alloc (.cells #[.int .i64 0, .int .u8 0, .slice none 0 0] 26)).drew w2 →
      w2.cell? ⟨g, 0, none⟩ = some (.int .u8 kd) ∧ w2.cell? ⟨w.heap.size, 0, none⟩ = some (.int .i64 0) ∧ w2.cell? ⟨w.heap.size, 1, none⟩ = some (.int .u8 0) ∧ w2.cell? ⟨w.heap.size, 2, none⟩ = some (.slice none 0 0) ∧
      w2.frozen? ⟨w.heap.size, 0, none⟩ = false ∧ w2.frozen? ⟨w.heap.size, 1, none⟩ = false ∧ w2.frozen? ⟨w.heap.size, 2, none⟩ = false ∧ w.heap.size < w2.heap.size ∧ Below w.heap.size w w2 := by
    intro w2 hb
    have hs : w.heap.size + 1 ≤ w2.heap.size := by simpa using hb.size
    refine ⟨?_, ?_, ?_, ?_, ?_, ?_, ?_, by omega, ?_⟩
    · rw [hb.cell (p := ⟨g, 0, none⟩) (by simp; omega)]; exact cell_alloc_old _ ck
    · rw [hb.cell (p := ⟨w.heap.size, 0, none⟩) (by simp)]; exact World.cell?_alloc_at _ _ _ _ rfl
    · rw [hb.cell (p := ⟨w.heap.size, 1, none⟩) (by simp)]; exact World.cell?_alloc_at _ _ _ _ rfl
    · rw [hb.cell (p := ⟨w.heap.size, 2, none⟩) (by simp)]; exact World.cell?_alloc_at _ _ _ _ rfl
    · rw [hb.frozen (p := ⟨w.heap.size, 0, none⟩) (by simp)]; exact World.frozen?_alloc_at _ _ _ _ rfl
    · rw [hb.frozen (p := ⟨w.heap.size, 1, none⟩) (by simp)]; exact World.frozen?_alloc_at _ _ _ _ rfl
    · rw [hb.frozen (p := ⟨w.heap.size, 2, none⟩) (by simp)]; exact World.frozen?_alloc_at _ _ _ _ rfl
    · exact (((Below.refl _ w).alloc (Nat.le_refl _) _).drew).trans (hb.mono (by simp))
  have HF : Hid (∀ w2, Below (w.alloc (.cells #[.int .i64 0, .int .u8 0, .slice none 0 0] 26)).drew.heap.size (w.alloc (.cells #[.int .i64 0, .int .u8 0, .slice none 0 0] 26)).drew w2 →
      w2.cell? ⟨g, 0, none⟩ = some (.int .u8 kd) ∧ w2.cell? ⟨w.heap.size, 0, none⟩ = some (.int .i64 0) ∧ w2.cell? ⟨w.heap.size, 1, none⟩ = some (.int .u8 0) ∧ w2.cell? ⟨w.heap.size, 2, none⟩ = some (.slice none 0 0) ∧
      w2.frozen? ⟨w.heap.size, 0, none⟩ = false ∧ w2.frozen? ⟨w.heap.size, 1, none⟩ = false ∧ w2.frozen? ⟨w.heap.size, 2, none⟩ = false ∧ w.heap.size < w2.heap.size ∧ Below w.heap.size w w2) := facts
  clear facts
  have ck' := cell_alloc_old (.cells #[.int .i64 0, .int .u8 0, .slice none 0 0] 26) ck
  unfold maxLen at hc
  have h0 : 0 < n := by omega
  go_enter Yba.func11, Yba.ntmps11
  go_wp2_with fail
  go_region_with (go_at_call 25; refine hu.mono ?_; rintro e w2 ⟨rfl, hb⟩; obtain ⟨k0, k1, k2, k3, k4, k5, k6, k7, k8⟩ := HF.out w2 hb; clear hb)
  all_goals go_wp2
  all_goals
    refine bodyPost_ret (v := .agg #[.int .i64 (z3 + z2 * 256 + z1 * 65536 + z0 * 16777216), .int .u8 kd, .slice pa pl pc]) (by simp [results, Yba.results11, go_sem, k1, k2, k3]) rfl ⟨rfl, ?_⟩
    exact ((k8.setCell (Nat.le_refl _) _).setCell (Nat.le_refl _) _).setCell (Nat.le_refl _) _

end Go.Proofs.Ybulkrzw
