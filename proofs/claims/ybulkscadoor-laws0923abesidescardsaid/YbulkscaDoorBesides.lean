import Derived.Test.YbulkscaDoorHeld
namespace Go.Proofs.YbulkscaDoor
open Go.RowKit
set_option linter.unusedVariables false

/-- The OR of the modes of the owners below n beside k. -/
def wantOf (l : List (Nat × Nat)) (k : Nat) : Nat → Nat
  | 0 => 0
  | j + 1 => if (j != k && hasOf j l) = true then wantOf l k j ||| (modeOf j l % 16) else wantOf l k j

theorem and15_lt (x : Nat) : x % 16 < 16 := Nat.mod_lt _ (by decide)

theorem wantOf_lt (l : List (Nat × Nat)) (k : Nat) : ∀ n, wantOf l k n < 16
  | 0 => by simp [wantOf]
  | j + 1 => by
    have h1 := wantOf_lt l k j
    have h2 := Nat.or_lt_two_pow (n := 4) h1 (and15_lt (modeOf j l))
    rw [wantOf]
    split
    · exact h2
    · exact h1

theorem and15_bit (x i : Nat) (hi : i < 4) : (x % 16).testBit i = x.testBit i := by
  rw [show (16 : Nat) = 2 ^ 4 from rfl, Nat.testBit_mod_two_pow]; simp [hi]

theorem wantOf_bit (l : List (Nat × Nat)) (k i : Nat) (hi : i < 4) (j : Nat) :
    (wantOf l k (j + 1)).testBit i = ((wantOf l k j).testBit i || (j != k && (hasOf j l && (modeOf j l).testBit i))) := by
  rw [wantOf]
  by_cases h : (j != k && hasOf j l) = true
  · rw [if_pos h, Nat.testBit_or, and15_bit _ _ hi, ← Bool.and_assoc, h, Bool.true_and]
  · rw [if_neg h]
    rw [Bool.not_eq_true] at h
    rw [← Bool.and_assoc, h, Bool.false_and, Bool.or_false]

theorem besOf_bit (h : Nat → Nat) (own i : Nat) : ∀ n, i < n → (besOf h own n).testBit i = decide ((if own.testBit i then 1 else 0) < h i)
  | 0, hn => by omega
  | n + 1, hn => by
    have hlt := besOf_lt h own n
    by_cases e : i = n
    · subst e
      have h0 : (besOf h own i).testBit i = false := Nat.testBit_lt_two_pow hlt
      rw [besOf]
      by_cases hc : (if own.testBit i then 1 else 0) < h i
      · rw [if_pos hc, Nat.testBit_or, h0, Nat.testBit_two_pow_self]; simp [hc]
      · rw [if_neg hc, h0]; simp [hc]
    · have ih := besOf_bit h own i n (by omega)
      rw [besOf]
      by_cases hc : (if own.testBit n then 1 else 0) < h n
      · rw [if_pos hc, Nat.testBit_or, ih, Nat.testBit_two_pow]; simp; omega
      · rw [if_neg hc, ih]

theorem want_bes (l : List (Nat × Nat)) (k : Nat) (hk : k < 4) (hn : (keysOf l).Nodup) (hl : ∀ p ∈ l, p.1 < 4) : wantOf l k 4 = besOf (holdOf l) (modeOf k l) 4 := by
  apply Nat.eq_of_testBit_eq
  intro i
  by_cases hi : i < 4
  · rw [besOf_bit _ _ _ _ hi, holdOf_upTo l i hn hl]
    have hz : (wantOf l k 0).testBit i = false := by simp [wantOf]
    rw [wantOf_bit l k i hi 3, wantOf_bit l k i hi 2, wantOf_bit l k i hi 1, wantOf_bit l k i hi 0, hz]
    have hown : (modeOf k l).testBit i = (hasOf k l && (modeOf k l).testBit i) := by
      cases hh : hasOf k l with
      | true => rfl
      | false => rw [modeOf_none l k hh]; simp
    rw [hown]
    simp only [upTo]
    have : k = 0 ∨ k = 1 ∨ k = 2 ∨ k = 3 := by omega
    obtain ⟨b0, e0⟩ : ∃ b, (hasOf 0 l && (modeOf 0 l).testBit i) = b := ⟨_, rfl⟩
    obtain ⟨b1, e1⟩ : ∃ b, (hasOf 1 l && (modeOf 1 l).testBit i) = b := ⟨_, rfl⟩
    obtain ⟨b2, e2⟩ : ∃ b, (hasOf 2 l && (modeOf 2 l).testBit i) = b := ⟨_, rfl⟩
    obtain ⟨b3, e3⟩ : ∃ b, (hasOf 3 l && (modeOf 3 l).testBit i) = b := ⟨_, rfl⟩
    rcases this with rfl | rfl | rfl | rfl <;> simp only [e0, e1, e2, e3] <;> clear hown hz e0 e1 e2 e3 <;> cases b0 <;> cases b1 <;> cases b2 <;> cases b3 <;> decide
  · have h16 : (2 : Nat) ^ 4 ≤ 2 ^ i := Nat.pow_le_pow_right (by omega) (by omega)
    have h1 := wantOf_lt l k 4
    have h2 := besOf_lt (holdOf l) (modeOf k l) 4
    rw [Nat.testBit_lt_two_pow (by omega), Nat.testBit_lt_two_pow (by omega)]

theorem holdOf_le (l : List (Nat × Nat)) (i : Nat) (hn : (keysOf l).Nodup) (hl : ∀ p ∈ l, p.1 < 4) : holdOf l i ≤ 4 := by
  rw [holdOf_upTo l i hn hl]; exact upTo_le _ _

set_option maxHeartbeats 2000000 in
set_option maxRecDepth 100000 in
theorem besides_any (nm : ByteArray) (wt : Bool) (a : Option Addr) (len cap : Nat) (zs : List (Nat × Nat)) (w : World) (hlen : len < 9223372036854775808) (hnl : nm.size < 9223372036854775808) (hz : len ≤ 1024 → StepsIn w a len cap zs) (tg : TypeId) (fr : Nat × Nat) (hG : w.heap[0]? = some (.cells modesC tg fr)) :
    Calls Ybad.prog 4 #[.string nm, .bool wt, .slice a len cap] w (fun en w' => en = .returned (.bool true) ∧ Below w.heap.size w w') := by
  by_cases h1 : 1024 < len
  · go_enter Ybad.func4, Ybad.ntmps4
    go_wp2_with fail
    go_ret
    exact ⟨rfl, Below.refl _ _⟩
  by_cases h2 : 1048576 < nm.size
  · go_enter Ybad.func4, Ybad.ntmps4
    go_wp2_with fail
    go_ret
    exact ⟨rfl, Below.refl _ _⟩
  have HR : Hid (Calls Ybad.prog 5 #[.string nm, .bool wt, .slice a len cap] w (Ran w nm wt)) := run_any nm wt a len cap zs w (by omega) (hz (by omega)) tg fr hG
  have HG : Hid (w.heap[0]? = some (.cells modesC tg fr)) := hG
  have h0 := lt_of_heap hG
  clear hz hG
  go_enter Ybad.func4, Ybad.ntmps4
  go_upto_region 4 with (go_at_call 5; refine HR.out.mono ?_; rintro en w2 ⟨e, mp, ow, ft, l, rfl, hl, hn, hf, hb⟩)
  all_goals
    have hBx := boxes_made hl hn hf hb
    clear hl hn hf hb HR
    unfold osC hmC seenC ptr
    go_upto_region 4 with fail
    obtain ⟨X, hX⟩ : ∃ X, X = ((w2.alloc (.cells (osC ow) 25)).alloc (.cells (hmC l) 27)).alloc (.cells (seenC l) 28) := ⟨_, rfl⟩
    rw [← hX] at hBx
    unfold osC hmC seenC ptr at hX
    rw [← hX]
    clear hX
    generalize w2.heap.size = n at *
    have HB : Hid (Boxes w X n e mp ow nm ft l wt) := hBx
    clear hBx
    go_wp2_with fail
    go_loopw [12] (fun i wr => ∃ k : Nat, k ≤ 4 ∧ i = .int .i64 k ∧ Boxes w wr n e mp ow nm ft l wt) (fun i _ => 4 - (intOf i).toNat)
    case atStart => exact ⟨0, by omega, rfl, HB.out⟩
    case round =>
      obtain ⟨k, hk4, rfl, hB⟩ := hrel
      clear HB
      by_cases hlt : k < 4
      · have HB : Hid (Boxes w wr n e mp ow nm ft l wt) := hB
        clear hB
        obtain ⟨X, hX⟩ : ∃ X, X = wr := ⟨_, rfl⟩
        subst hX
        go_wp2_with fail
        rw [show decide ((k : Int) < 4) = true from by simp; omega]
        go_loopw [13, 14] (fun c s wr => ∃ j : Nat, j ≤ 4 ∧ s = .int .i64 j ∧ c = .int .u8 (wantOf l k j : Nat) ∧ wr = X) (fun _ s _ => 4 - (intOf s).toNat)
        case atStart => exact ⟨0, by omega, rfl, rfl, rfl⟩
        case round =>
          obtain ⟨j, hj4, rfl, rfl, rfl⟩ := hrel
          have hwl := wantOf_lt l k j
          by_cases hltj : j < 4
          · have s1 : wr.cell? ⟨n + 1 + 1, j, none⟩ = some (.bool (hasOf j l)) := by rw [cell_of_row _ _ _ _ _ _ HB.out.sn]; exact seenC_at l j hltj
            have s2 : wr.cell? ⟨n + 1, j, none⟩ = some (.int .u8 (modeOf j l : Nat)) := by rw [cell_of_row _ _ _ _ _ _ HB.out.hm]; exact hmC_at l j hltj
            have hmo := modeOf_small l j (fun p hp => (HB.out.lock.keys p hp).2)
            have hx15 := and15_lt (modeOf j l)
            have hst : wantOf l k (j + 1) = if (j != k && hasOf j l) = true then wantOf l k j ||| (modeOf j l % 16) else wantOf l k j := rfl
            generalize wantOf l k j = c at *
            generalize modeOf j l = mo at *
            have hor := u8_or_nat c (mo % 16) (by omega) (by omega)
            rw [show (((mo % 16 : Nat)) : Int) = (mo : Int) % 16 from by omega] at hor
            by_cases hjk : j = k
            · have hn : wantOf l k (j + 1) = c := by rw [hst, hjk]; simp
              have HN : Hid (wantOf l k (j + 1) = c) := hn
              clear hn hst
              subst hjk
              go_wp2_with fail
              go_roundw
              case rel => exact ⟨j + 1, by omega, by go_num, by rw [HN.out], by first | exact rfl | exact trivial⟩
              case measure => simp [intOf]; omega
            · by_cases hh : hasOf j l = true
              · have hn : wantOf l k (j + 1) = c ||| mo % 16 := by rw [hst, hh]; simp [hjk]
                have HN : Hid (wantOf l k (j + 1) = c ||| mo % 16) := hn
                rw [hh] at s1
                clear hn hst hh
                go_wp2_with fail
                go_roundw
                case rel => exact ⟨j + 1, by omega, by go_num, by rw [HN.out], by first | exact rfl | exact trivial⟩
                case measure => simp [intOf]; omega
              · have hh : hasOf j l = false := by simpa using hh
                have hn : wantOf l k (j + 1) = c := by rw [hst, hh]; simp
                have HN : Hid (wantOf l k (j + 1) = c) := hn
                rw [hh] at s1
                clear hn hst hh
                go_wp2_with fail
                go_roundw
                case rel => exact ⟨j + 1, by omega, by go_num, by rw [HN.out], by first | exact rfl | exact trivial⟩
                case measure => simp [intOf]; omega
          · obtain rfl : j = 4 := by omega
            rw [show (((4 : Nat)) : Int) = (4 : Int) from rfl]
            have hkeys : ∀ p ∈ l, p.1 < 4 := fun p hp => (HB.out.lock.keys p hp).1
            have hwb := want_bes l k hlt HB.out.nod hkeys
            have s2 : wr.cell? ⟨n + 1, k, none⟩ = some (.int .u8 (modeOf k l : Nat)) := by rw [cell_of_row _ _ _ _ _ _ HB.out.hm]; exact hmC_at l k hlt
            have hmo := modeOf_small l k (fun p hp => (HB.out.lock.keys p hp).2)
            have hG2 : wr.heap[0]? = some (.cells modesC tg fr) := by rw [HB.out.below.block 0 h0]; exact HG.out
            have hheld := held_any wr e (modeOf k l) nm mp (holdOf l) ft l.length HB.out.lock.ent (fun i _ => holdOf_le l i HB.out.nod hkeys) hmo tg fr hG2
            rw [← hwb] at hheld
            have HC : Hid (Calls Ybad.prog 6 #[.pointer (some ⟨e, 0, none⟩), .int .u8 (modeOf k l : Nat)] wr (fun en w' => en = .returned (.int .u8 (wantOf l k 4 : Nat)) ∧ Below wr.heap.size wr w')) := hheld
            clear hheld hG2 hwb hkeys
            generalize wantOf l k 4 = c at *
            generalize modeOf k l = mo at *
            go_wp2_with (go_at_call 6; refine HC.out.mono ?_; rintro en w3 ⟨rfl, hb3⟩)
            have hB3 : Boxes w w3 n e mp ow nm ft l wt := HB.out.same hb3.block (HB.out.below.trans (hb3.mono HB.out.below.size))
            clear HC hb3
            go_wp2_with fail
            go_roundw
            case rel => exact ⟨k + 1, by omega, by go_num, hB3⟩
            case measure => simp [intOf]; omega
      · obtain rfl : k = 4 := by omega
        rw [show (((4 : Nat)) : Int) = (4 : Int) from rfl]
        have hbl := hB.below
        clear hB
        go_wp2_with fail
        go_ret
        exact ⟨rfl, hbl⟩

end Go.Proofs.YbulkscaDoor
