import Derived.Test.YbulkscaDoorState
namespace Go.Proofs.YbulkscaDoor
open Go.RowKit
set_option linter.unusedVariables false

/-- The modes that others hold: bit i stands where more than the own one hold it. -/
def besOf (h : Nat → Nat) (own : Nat) : Nat → Nat
  | 0 => 0
  | i + 1 => if (if own.testBit i then 1 else 0) < h i then besOf h own i ||| 2 ^ i else besOf h own i
theorem besOf_lt (h : Nat → Nat) (own : Nat) : ∀ i, besOf h own i < 2 ^ i
  | 0 => by simp [besOf]
  | i + 1 => by
    have := besOf_lt h own i
    have h2 : 2 ^ i < 2 ^ (i + 1) := Nat.pow_lt_pow_right (by omega) (by omega)
    have h3 : besOf h own i ||| 2 ^ i < 2 ^ (i + 1) := Nat.or_lt_two_pow (by omega) h2
    rw [besOf]
    by_cases hc : (if own.testBit i then 1 else 0) < h i
    · rw [if_pos hc]; exact h3
    · rw [if_neg hc]; omega
theorem besOf_small (h : Nat → Nat) (own i : Nat) (hi : i ≤ 4) : besOf h own i < 256 := by
  have := besOf_lt h own i
  have h2 : 2 ^ i ≤ 2 ^ 4 := Nat.pow_le_pow_right (by omega) hi
  omega

theorem index_any (i : Nat) (hi : i < 4) : ∃ (s : ByteArray) (c : Int), ∀ w : World, (Instr.index 55 (.agg modesC) (.int .i64 (i : Nat))).run Ybad.prog w = .ok (.agg #[.int .u8 (2 ^ i : Nat), .string s, .int .u8 c]) w := by
  have : i = 0 ∨ i = 1 ∨ i = 2 ∨ i = 3 := by omega
  rcases this with rfl | rfl | rfl | rfl
  · exact ⟨_, _, index0⟩
  · exact ⟨_, _, index1⟩
  · exact ⟨_, _, index2⟩
  · exact ⟨_, _, index3⟩

set_option maxHeartbeats 2000000 in
set_option maxRecDepth 100000 in
theorem held_any (w : World) (e own : Nat) (nm : ByteArray) (mp : Nat) (h : Nat → Nat) (ft : Option Addr) (L : Nat) (he : w.heap[e]? = some (.cells (entCells nm mp h ft L) 39 (0, 0))) (hh : ∀ i, i < 4 → h i ≤ 4) (hown : own < 256) (tg : TypeId) (fr : Nat × Nat) (hG : w.heap[0]? = some (.cells modesC tg fr)) :
    Calls Ybad.prog 6 #[.pointer (some ⟨e, 0, none⟩), .int .u8 own] w (fun en w' => en = .returned (.int .u8 (besOf h own 4 : Nat)) ∧ Below w.heap.size w w') := by
  have hez := lt_of_heap he
  have HE : Hid (w.heap[e]? = some (.cells (entCells nm mp h ft L) 39 (0, 0))) := he
  have HH : Hid (∀ i, i < 4 → h i ≤ 4) := hh
  clear he hh
  go_enter Ybad.func6, Ybad.ntmps6
  go_wp2_with (refine wpList_load_row rfl 55 _ rfl 0 rfl tg _ fr _ hG Ybad.underlying55 rfl (by kernel_rfl) ?_)
  clear hG
  go_loopw [5, 10] (fun c s wr => ∃ i : Nat, i ≤ 4 ∧ s = .int .i64 i ∧ c = .int .u8 (besOf h own i : Nat) ∧ Below w.heap.size w wr) (fun _ s _ => 4 - (intOf s).toNat)
  case atStart => exact ⟨0, Nat.zero_le _, rfl, rfl, Below.refl _ _⟩
  case round =>
    obtain ⟨i, hi4, rfl, rfl, hB⟩ := hrel
    by_cases hlt : i < 4
    · obtain ⟨s, cp, hix⟩ := index_any i hlt
      have c1 : wr.cell? ⟨e, 2 + i, none⟩ = some (.int .i64 (h i : Nat)) := by
        rw [hB.cell (p := ⟨e, 2 + i, none⟩) hez, cell_of_row _ _ _ _ _ _ HE.out]; exact entCells_at _ _ _ _ _ i hlt
      have hle := HH.out i hlt
      have hsm := besOf_small h own i hi4
      have hand := u8_and_nat own (2 ^ i) hown (pow_small i hlt)
      have hor := u8_or_nat (besOf h own i) (2 ^ i) hsm (pow_small i hlt)
      have hbit := bit_and own i
      have hst : besOf h own (i + 1) = if (if own.testBit i then 1 else 0) < h i then besOf h own i ||| 2 ^ i else besOf h own i := rfl
      obtain ⟨x, hx⟩ : ∃ x, x = own &&& 2 ^ i := ⟨_, rfl⟩
      rw [← hx] at hand hbit
      clear hx
      have hsz := hB.size
      have rez : e < wr.heap.size := by omega
      have HB : Hid (Below w.heap.size w wr) := hB
      clear hB
      generalize besOf h own i = c at *
      generalize (2 ^ i : Nat) = q at *
      generalize h i = hi at *
      by_cases hx0 : x = 0
      · have ht : own.testBit i = false := by
          cases hb : own.testBit i with
          | false => rfl
          | true => exact absurd hx0 (hbit.2 hb)
        rw [ht] at hst
        subst hx0
        by_cases hp : 0 < hi
        · have hn : besOf h own (i + 1) = c ||| q := by rw [hst]; simp [hp]
          have HN : Hid (besOf h own (i + 1) = c ||| q) := hn
          clear hn hst hbit ht
          go_wp2_with fail
          go_roundw
          case rel => exact ⟨i + 1, by omega, by go_num, by rw [HN.out], HB.out.alloc hsz _⟩
          case measure => simp [intOf]; omega
        · have hn : besOf h own (i + 1) = c := by rw [hst]; simp [hp]
          have HN : Hid (besOf h own (i + 1) = c) := hn
          clear hn hst hbit ht
          go_wp2_with fail
          go_roundw
          case rel => exact ⟨i + 1, by omega, by go_num, by rw [HN.out], HB.out.alloc hsz _⟩
          case measure => simp [intOf]; omega
      · rw [hbit.1 hx0] at hst
        by_cases hp : 1 < hi
        · have hn : besOf h own (i + 1) = c ||| q := by rw [hst]; simp [hp]
          have HN : Hid (besOf h own (i + 1) = c ||| q) := hn
          clear hn hst hbit
          go_wp2_with fail
          go_roundw
          case rel => exact ⟨i + 1, by omega, by go_num, by rw [HN.out], HB.out.alloc hsz _⟩
          case measure => simp [intOf]; omega
        · have hn : besOf h own (i + 1) = c := by rw [hst]; simp [hp]
          have HN : Hid (besOf h own (i + 1) = c) := hn
          clear hn hst hbit
          go_wp2_with fail
          go_roundw
          case rel => exact ⟨i + 1, by omega, by go_num, by rw [HN.out], HB.out.alloc hsz _⟩
          case measure => simp [intOf]; omega
    · obtain rfl : i = 4 := by omega
      rw [show (((4 : Nat)) : Int) = (4 : Int) from rfl]
      go_wp2_with fail
      go_ret
      exact ⟨rfl, hB⟩

end Go.Proofs.YbulkscaDoor
