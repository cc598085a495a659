import Derived.Test.YbulkscaDoorRun
import Derived.Lib.Builder
namespace Go.Proofs.YbulkscaDoor
open Go.RowKit
set_option linter.unusedVariables false

/-- How many j below n have P. -/
def upTo (P : Nat → Bool) : Nat → Nat
  | 0 => 0
  | n + 1 => upTo P n + if P n then 1 else 0
theorem upTo_le (P : Nat → Bool) : ∀ n, upTo P n ≤ n
  | 0 => Nat.le_refl _
  | n + 1 => by
    have := upTo_le P n
    simp only [upTo]
    split <;> omega
theorem length_upTo (l : List (Nat × Nat)) (h : (keysOf l).Nodup) (hl : ∀ p ∈ l, p.1 < 4) : l.length = upTo (fun j => hasOf j l) 4 := by
  rw [length_four l h hl]; simp [upTo]
theorem holdOf_upTo (l : List (Nat × Nat)) (i : Nat) (h : (keysOf l).Nodup) (hl : ∀ p ∈ l, p.1 < 4) : holdOf l i = upTo (fun j => hasOf j l && (modeOf j l).testBit i) 4 := by
  have := four (fun _ m => m.testBit i) l h hl
  unfold holdOf
  rw [this]; simp [upTo]

/-- The run's results in three boxes (blocks n, n+1, n+2). -/
structure Boxes (w W : World) (n e mp : Nat) (ow : Nat → Nat) (nm : ByteArray) (ft : Option Addr) (l : List (Nat × Nat)) (wt : Bool) : Prop where
  lock : LockIn w.heap.size W e mp ow nm ft l
  nod : (keysOf l).Nodup
  os : W.heap[n]? = some (.cells (osC ow) 25 (0, 0))
  hm : W.heap[n + 1]? = some (.cells (hmC l) 27 (0, 0))
  sn : W.heap[n + 1 + 1]? = some (.cells (seenC l) 28 (0, 0))
  fresh : ft.isSome = wt
  below : Below w.heap.size w W

theorem LockIn.same {B : Nat} {w W : World} {e mp : Nat} {ow : Nat → Nat} {nm : ByteArray} {ft : Option Addr} {l : List (Nat × Nat)} (h : LockIn B w e mp ow nm ft l) (t : ∀ g, g < w.heap.size → W.heap[g]? = w.heap[g]?) : LockIn B W e mp ow nm ft l := by
  obtain ⟨p1, ⟨es, cl, p2, p3⟩, p4, p5, p6, p7, p8, p9, p10⟩ := h
  refine ⟨by rw [t _ (lt_of_heap p1)]; exact p1, ⟨es, cl, by rw [t _ (lt_of_heap p2)]; exact p2, p3⟩, fun j hj hh => ?_, fun j hj hh => ?_, p6, p7, p8, p9, p10⟩
  · obtain ⟨hb', hc', g1, g2, g3, g4⟩ := p4 j hj hh
    exact ⟨hb', hc', by rw [t _ (lt_of_heap g1)]; exact g1, by rw [t _ (lt_of_heap g2)]; exact g2, g3, g4⟩
  · have g1 := p5 j hj hh
    rw [t _ (lt_of_heap g1)]; exact g1

theorem Boxes.same {w w1 W : World} {n e mp : Nat} {ow : Nat → Nat} {nm : ByteArray} {ft : Option Addr} {l : List (Nat × Nat)} {wt : Bool} (h : Boxes w w1 n e mp ow nm ft l wt) (t : ∀ g, g < w1.heap.size → W.heap[g]? = w1.heap[g]?) (hb : Below w.heap.size w W) : Boxes w W n e mp ow nm ft l wt :=
  ⟨h.lock.same t, h.nod, by rw [t _ (lt_of_heap h.os)]; exact h.os, by rw [t _ (lt_of_heap h.hm)]; exact h.hm, by rw [t _ (lt_of_heap h.sn)]; exact h.sn, h.fresh, hb⟩
theorem Boxes.drew {w w1 : World} {n e mp : Nat} {ow : Nat → Nat} {nm : ByteArray} {ft : Option Addr} {l : List (Nat × Nat)} {wt : Bool} (h : Boxes w w1 n e mp ow nm ft l wt) : Boxes w w1.drew n e mp ow nm ft l wt := h.same (fun _ _ => rfl) h.below.drew
theorem Boxes.drewN {w w1 : World} {n e mp : Nat} {ow : Nat → Nat} {nm : ByteArray} {ft : Option Addr} {l : List (Nat × Nat)} {wt : Bool} (h : Boxes w w1 n e mp ow nm ft l wt) (q : Nat) : Boxes w (w1.drewN q) n e mp ow nm ft l wt := h.same (fun _ _ => rfl) ⟨h.below.os, h.below.tape, h.below.output, h.below.size, h.below.block⟩
theorem Boxes.alloc {w w1 : World} {n e mp : Nat} {ow : Nat → Nat} {nm : ByteArray} {ft : Option Addr} {l : List (Nat × Nat)} {wt : Bool} (h : Boxes w w1 n e mp ow nm ft l wt) (o : Obj) : Boxes w (w1.alloc o) n e mp ow nm ft l wt := h.same (fun g hg => heap_past _ _ _ hg) (h.below.alloc h.below.size _)

theorem boxes_made {w w2 : World} {e mp : Nat} {ow : Nat → Nat} {nm : ByteArray} {ft : Option Addr} {l : List (Nat × Nat)} {wt : Bool} (h1 : LockIn w.heap.size w2 e mp ow nm ft l) (h2 : (keysOf l).Nodup) (h3 : ft.isSome = wt) (h4 : Below w.heap.size w w2) :
    Boxes w (((w2.alloc (.cells (osC ow) 25)).alloc (.cells (hmC l) 27)).alloc (.cells (seenC l) 28)) w2.heap.size e mp ow nm ft l wt := by
  have t : ∀ g, g < w2.heap.size → (((w2.alloc (.cells (osC ow) 25)).alloc (.cells (hmC l) 27)).alloc (.cells (seenC l) 28)).heap[g]? = w2.heap[g]? := fun g hg => by
    rw [heap_past _ _ _ (by simp; omega), heap_past _ _ _ (by simp; omega), heap_past _ _ _ hg]
  have hs := h4.size
  refine ⟨h1.same t, h2, ?_, ?_, ?_, h3, ((h4.alloc hs _).alloc (by simp; omega) _).alloc (by simp; omega) _⟩
  · rw [heap_past _ _ _ (by simp; omega), heap_past _ _ _ (by simp), heap_at _ _ _ rfl]
  · rw [heap_past _ _ _ (by simp), heap_at _ _ _ (by simp)]
  · rw [heap_at _ _ _ (by simp)]

theorem info39_some : (Ybad.prog.info? 39).isSome = true := by kernel_rfl
theorem neq_same (w : World) (e : Nat) : (binOp .neq 23 (.pointer (some ⟨e, 0, none⟩)) (.pointer (some ⟨e, 0, none⟩))).run Ybad.prog w = .ok (.bool false) w := by
  obtain ⟨j, hj⟩ := Option.isSome_iff_exists.1 info39_some
  exact Lib.run_neq_ptr_same w _ Ybad.underlying23 hj

/-- What a walk reads of the boxes and of the lock. -/
theorem Boxes.lookup {w W : World} {n e mp : Nat} {ow : Nat → Nat} {nm : ByteArray} {ft : Option Addr} {l : List (Nat × Nat)} {wt : Bool} (h : Boxes w W n e mp ow nm ft l wt) (k : Nat) (hk : k < 4) :
    (Instr.lookup 31 (.map (some mp)) (.pointer (some ⟨ow k, 0, none⟩)) true).run Ybad.prog W = .ok (.tuple #[.int .u8 (modeOf k l : Nat), .bool (hasOf k l)]) W := by
  obtain ⟨es, clock, hmap, hents⟩ := h.lock.map
  have hinj : ∀ p ∈ l, ow k = ow p.1 → k = p.1 := fun p hp he => h.lock.inj k p.1 hk (h.lock.keys p hp).1 he
  have hblk : ∀ p ∈ atBlocks ow l, ∃ c, W.heap[p.1]? = some (.cells c 45 (0, 0)) := by
    intro p hp
    obtain ⟨q, hq, rfl⟩ := List.mem_map.1 hp
    exact h.lock.block q.1 (h.lock.keys q hq).1
  obtain ⟨ck, hck⟩ := h.lock.block k hk
  have hlk := lookup_run W mp (ow k) hck es clock hmap _ hents hblk
  rw [(modeOf_blocks ow k l hinj).1, (modeOf_blocks ow k l hinj).2] at hlk
  exact hlk
theorem Boxes.len {w W : World} {n e mp : Nat} {ow : Nat → Nat} {nm : ByteArray} {ft : Option Addr} {l : List (Nat × Nat)} {wt : Bool} (h : Boxes w W n e mp ow nm ft l wt) :
    ∀ ty, (Builtin.len_ #[31] ty #[.map (some mp)]).run Ybad.prog W = .ok (.int .i64 (l.length : Nat)) W := by
  intro ty
  obtain ⟨es, clock, hmap, hents⟩ := h.lock.map
  have h1 := MapKept.run_getObj_map (P := Ybad.prog) (w := W) (r := mp) hmap
  have hesz : es.size = l.length := by
    have := congrArg List.length hents
    simpa [atBlocks] using this
  simp [Builtin.len_, run_underlying Ybad.underlying31, h1, hesz, goInt]

def bitsC : Array Value := #[.int .u8 1, .int .u8 2, .int .u8 4, .int .u8 8]
theorem bitsC_at (i : Nat) (hi : i < 4) : bitsC[i]? = some (.int .u8 (2 ^ i : Nat)) := by
  have : i = 0 ∨ i = 1 ∨ i = 2 ∨ i = 3 := by omega
  rcases this with rfl | rfl | rfl | rfl <;> rfl
theorem pow_small (i : Nat) (hi : i < 4) : 2 ^ i < 256 := by
  have : i = 0 ∨ i = 1 ∨ i = 2 ∨ i = 3 := by omega
  rcases this with rfl | rfl | rfl | rfl <;> decide
theorem entCells_at (nm : ByteArray) (mp : Nat) (h : Nat → Nat) (ft : Option Addr) (mo i : Nat) (hi : i < 4) : (entCells nm mp h ft mo)[2 + i]? = some (.int .i64 (h i : Nat)) := by
  have : i = 0 ∨ i = 1 ∨ i = 2 ∨ i = 3 := by omega
  rcases this with rfl | rfl | rfl | rfl <;> rfl

set_option maxHeartbeats 2000000 in
set_option maxRecDepth 100000 in
theorem state_any (nm : ByteArray) (wt : Bool) (a : Option Addr) (len cap : Nat) (zs : List (Nat × Nat)) (w : World) (hlen : len < 9223372036854775808) (hnl : nm.size < 9223372036854775808) (hz : len ≤ 1024 → StepsIn w a len cap zs) (tg : TypeId) (fr : Nat × Nat) (hG : w.heap[0]? = some (.cells modesC tg fr)) :
    Calls Ybad.prog 3 #[.string nm, .bool wt, .slice a len cap] w (fun en w' => en = .returned (.bool true) ∧ Below w.heap.size w w') := by
  by_cases h1 : 1024 < len
  · go_enter Ybad.func3, Ybad.ntmps3
    go_wp2_with fail
    go_ret
    exact ⟨rfl, Below.refl _ _⟩
  by_cases h2 : 1048576 < nm.size
  · go_enter Ybad.func3, Ybad.ntmps3
    go_wp2_with fail
    go_ret
    exact ⟨rfl, Below.refl _ _⟩
  have HR : Hid (Calls Ybad.prog 5 #[.string nm, .bool wt, .slice a len cap] w (Ran w nm wt)) := run_any nm wt a len cap zs w (by omega) (hz (by omega)) tg fr hG
  clear hz
  go_enter Ybad.func3, Ybad.ntmps3
  go_upto_region 4 with (go_at_call 5; refine HR.out.mono ?_; rintro en w2 ⟨e, mp, ow, ft, l, rfl, hl, hn, hf, hb⟩)
  all_goals
    have hBx := boxes_made hl hn hf hb
    clear hl hn hf hb HR
    unfold osC hmC seenC ptr
    go_upto_region 4 with fail
    obtain ⟨X, hX⟩ : ∃ X, X = ((w2.alloc (.cells (osC ow) 25)).alloc (.cells (hmC l) 27)).alloc (.cells (seenC l) 28) := ⟨_, rfl⟩
    rw [← hX] at hBx
    unfold osC hmC seenC ptr at hX
    rw [← hX]
    clear hX
    generalize w2.heap.size = n at *
    have HB : Hid (Boxes w X n e mp ow nm ft l wt) := hBx
    have hcount := length_upTo l hBx.nod (fun p hp => (hBx.lock.keys p hp).1)
    have hle := length_le l hBx.nod (fun p hp => (hBx.lock.keys p hp).1)
    obtain ⟨L, hL⟩ : ∃ L, L = l.length := ⟨_, rfl⟩
    have hlenr := hBx.len
    have e8 : X.cell? ⟨e, 8, none⟩ = some (.int .i64 (l.length : Nat)) := by rw [cell_of_row _ _ _ _ _ _ hBx.lock.ent]; rfl
    have e1 : X.cell? ⟨e, 1, none⟩ = some (.map (some mp)) := by rw [cell_of_row _ _ _ _ _ _ hBx.lock.ent]; rfl
    rw [← hL] at hcount hle hlenr e8
    clear hBx
    go_wp2_with fail
    go_loopw [11, 12] (fun c i wr => ∃ k : Nat, k ≤ 4 ∧ i = .int .i64 k ∧ wr = X ∧ c = .int .i64 (upTo (fun j => hasOf j l) k : Nat)) (fun _ i _ => 4 - (intOf i).toNat)
    case atStart => exact ⟨0, by omega, rfl, rfl, rfl⟩
    case round =>
      obtain ⟨k, hk4, rfl, rfl, rfl⟩ := hrel
      by_cases hlt : k < 4
      · have s1 : wr.cell? ⟨n + 1 + 1, k, none⟩ = some (.bool (hasOf k l)) := by rw [cell_of_row _ _ _ _ _ _ HB.out.sn]; exact seenC_at l k hlt
        have hup := upTo_le (fun j => hasOf j l) k
        obtain ⟨c, hc⟩ : ∃ c, c = upTo (fun j => hasOf j l) k := ⟨_, rfl⟩
        rw [← hc] at hup ⊢
        by_cases hh : hasOf k l = true
        · have hn : upTo (fun j => hasOf j l) (k + 1) = c + 1 := by simp [upTo, ← hc, hh]
          rw [hh] at s1
          go_wp2_with fail
          go_roundw
          case rel => exact ⟨k + 1, by omega, by go_num, by first | exact rfl | exact trivial, by rw [hn]; go_num⟩
          case measure => simp [intOf]; omega
        · have hh : hasOf k l = false := by simpa using hh
          have hn : upTo (fun j => hasOf j l) (k + 1) = c := by simp [upTo, ← hc, hh]
          rw [hh] at s1
          go_wp2_with fail
          go_roundw
          case rel => exact ⟨k + 1, by omega, by go_num, by first | exact rfl | exact trivial, by rw [hn]⟩
          case measure => simp [intOf]; omega
      · obtain rfl : k = 4 := by omega
        rw [show (((4 : Nat)) : Int) = (4 : Int) from rfl, ← hcount]
        clear hcount
        go_upto_region 12 with fail
        clear hlenr e8 hL
        obtain ⟨X, hX⟩ : ∃ X, X = wr := ⟨_, rfl⟩
        subst hX
        go_wp2_with fail
        go_loopw [13] (fun i wr => ∃ k : Nat, k ≤ 4 ∧ i = .int .i64 k ∧ wr = X) (fun i _ => 4 - (intOf i).toNat)
        case atStart => exact ⟨0, by omega, rfl, rfl⟩
        case round =>
          obtain ⟨k, hk4, rfl, rfl⟩ := hrel
          by_cases hlt : k < 4
          · have s1 : wr.cell? ⟨n + 1 + 1, k, none⟩ = some (.bool (hasOf k l)) := by rw [cell_of_row _ _ _ _ _ _ HB.out.sn]; exact seenC_at l k hlt
            have s2 : wr.cell? ⟨n + 1, k, none⟩ = some (.int .u8 (modeOf k l : Nat)) := by rw [cell_of_row _ _ _ _ _ _ HB.out.hm]; exact hmC_at l k hlt
            have s3 : wr.cell? ⟨n, k, none⟩ = some (.pointer (some ⟨ow k, 0, none⟩)) := by rw [cell_of_row _ _ _ _ _ _ HB.out.os]; exact osC_at ow k hlt
            have hlk := HB.out.lookup k hlt
            have hmo := modeOf_small l k (fun p hp => (HB.out.lock.keys p hp).2)
            have np := neq_same wr e
            have nl := fun (x : Option Addr) (l c : Nat) => run_neq_slice_nil_any (P := Ybad.prog) wr 41 23 x l c 0 0 Ybad.underlying41
            by_cases hh : hasOf k l = true
            · obtain ⟨hb, hc, g1, g2, g3, g4⟩ := HB.out.lock.yes k hlt hh
              have c1 : wr.cell? ⟨ow k, 1, none⟩ = some (.slice (some ⟨hb, 0, none⟩) 1 8) := by rw [cell_of_row _ _ _ _ _ _ g1]; rfl
              have c2 : wr.cell? ⟨ow k, 2, none⟩ = some (.int .i64 (256 + nm.size : Nat)) := by rw [cell_of_row _ _ _ _ _ _ g1]; rfl
              have c7 : wr.cell? ⟨ow k, 7, none⟩ = some (.int .i64 (wfOf ft : Nat)) := by rw [cell_of_row _ _ _ _ _ _ g1]; rfl
              have c0 : wr.cell? ⟨hb, 0, none⟩ = some (.pointer (some ⟨e, 0, none⟩)) := by rw [cell_of_row _ _ _ _ _ _ g2]; exact g3
              have hwf : wfOf ft = if wt then 1 else 0 := by unfold wfOf; rw [HB.out.fresh]
              rw [hwf] at c7
              rw [hh] at s1 hlk
              clear g1 g2 g3 g4 hh hwf
              cases wt with
              | true =>
                go_wp2_with fail
                go_roundw
                case rel => exact ⟨k + 1, by omega, by go_num, by first | exact rfl | exact trivial⟩
                case measure => simp [intOf]; omega
              | false =>
                go_wp2_with fail
                go_roundw
                case rel => exact ⟨k + 1, by omega, by go_num, by first | exact rfl | exact trivial⟩
                case measure => simp [intOf]; omega
            · have hh : hasOf k l = false := by simpa using hh
              have g1 := HB.out.lock.no k hlt hh
              have c1 : wr.cell? ⟨ow k, 1, none⟩ = some (.slice none 0 0) := by rw [cell_of_row _ _ _ _ _ _ g1]; rfl
              have c2 : wr.cell? ⟨ow k, 2, none⟩ = some (.int .i64 0) := by rw [cell_of_row _ _ _ _ _ _ g1]; rfl
              have c7 : wr.cell? ⟨ow k, 7, none⟩ = some (.int .i64 0) := by rw [cell_of_row _ _ _ _ _ _ g1]; rfl
              rw [hh] at s1 hlk
              clear g1 hh
              go_wp2_with fail
              go_roundw
              case rel => exact ⟨k + 1, by omega, by go_num, by first | exact rfl | exact trivial⟩
              case measure => simp [intOf]; omega
          · obtain rfl : k = 4 := by omega
            rw [show (((4 : Nat)) : Int) = (4 : Int) from rfl]
            have hA : wr.alloc (.cells bitsC 27) = wr.alloc (.cells #[.int .u8 1, .int .u8 2, .int .u8 4, .int .u8 8] 27) := rfl
            have HB0 : Hid (Boxes w (wr.alloc (.cells #[.int .u8 1, .int .u8 2, .int .u8 4, .int .u8 8] 27)) n e mp ow nm ft l wt) := HB.out.alloc _
            have HM0 : Hid ((wr.alloc (.cells #[.int .u8 1, .int .u8 2, .int .u8 4, .int .u8 8] 27)).heap[wr.heap.size]? = some (.cells bitsC 27 (0, 0))) := heap_at _ _ _ rfl
            clear hA
            go_wp2_with fail
            generalize wr.heap.size = m at *
            go_loopw [19] (fun s wr => ∃ i : Nat, i ≤ 4 ∧ s = .int .i64 i ∧ Boxes w wr n e mp ow nm ft l wt ∧ wr.heap[m]? = some (.cells bitsC 27 (0, 0))) (fun s _ => 4 - (intOf s).toNat)
            case atStart => exact ⟨0, by omega, rfl, HB0.out, HM0.out⟩
            case round =>
              obtain ⟨i, hi4, rfl, hBi, hMi⟩ := hrel
              clear HB0 HM0
              by_cases hlt : i < 4
              · obtain ⟨Q, hQ⟩ : ∃ Q : Nat → Bool, Q = fun j => hasOf j l && (modeOf j l).testBit i := ⟨_, rfl⟩
                have hhold : holdOf l i = upTo Q 4 := by rw [hQ]; exact holdOf_upTo l i hBi.nod (fun p hp => (hBi.lock.keys p hp).1)
                have HBi : Hid (Boxes w wr n e mp ow nm ft l wt) := hBi
                have HMi : Hid (wr.heap[m]? = some (.cells bitsC 27 (0, 0))) := hMi
                have HQ : Hid (Q = fun j => hasOf j l && (modeOf j l).testBit i) := hQ
                have HH : Hid (holdOf l i = upTo Q 4) := hhold
                clear hBi hMi hQ hhold
                go_wp2_with fail
                go_loopw [20, 21] (fun c s wr => ∃ j : Nat, j ≤ 4 ∧ s = .int .i64 j ∧ c = .int .i64 (upTo Q j : Nat) ∧ Boxes w wr n e mp ow nm ft l wt ∧ wr.heap[m]? = some (.cells bitsC 27 (0, 0))) (fun _ s _ => 4 - (intOf s).toNat)
                case atStart => exact ⟨0, by omega, rfl, rfl, HBi.out, HMi.out⟩
                case round =>
                  obtain ⟨j, hj4, rfl, rfl, hBj, hMj⟩ := hrel
                  clear HBi HMi
                  have hup := upTo_le Q j
                  by_cases hltj : j < 4
                  · have s1 : wr.cell? ⟨n + 1 + 1, j, none⟩ = some (.bool (hasOf j l)) := by rw [cell_of_row _ _ _ _ _ _ hBj.sn]; exact seenC_at l j hltj
                    have s2 : wr.cell? ⟨n + 1, j, none⟩ = some (.int .u8 (modeOf j l : Nat)) := by rw [cell_of_row _ _ _ _ _ _ hBj.hm]; exact hmC_at l j hltj
                    have s3 : wr.cell? ⟨m, i, none⟩ = some (.int .u8 (2 ^ i : Nat)) := by rw [cell_of_row _ _ _ _ _ _ hMj]; exact bitsC_at i hlt
                    have hmo := modeOf_small l j (fun p hp => (hBj.lock.keys p hp).2)
                    have hand := u8_and_nat (modeOf j l) (2 ^ i) hmo (pow_small i hlt)
                    have hbit := bit_and (modeOf j l) i
                    have hQj : Q j = (hasOf j l && (modeOf j l).testBit i) := by rw [HQ.out]
                    have hst : upTo Q (j + 1) = upTo Q j + if Q j then 1 else 0 := rfl
                    generalize upTo Q j = c at *
                    generalize modeOf j l = mo at *
                    obtain ⟨x, hx⟩ : ∃ x, x = mo &&& 2 ^ i := ⟨_, rfl⟩
                    rw [← hx] at hand hbit
                    clear hx
                    have HBj : Hid (Boxes w wr n e mp ow nm ft l wt) := hBj
                    have HMj : Hid (wr.heap[m]? = some (.cells bitsC 27 (0, 0))) := hMj
                    clear hBj hMj
                    generalize (2 ^ i : Nat) = q at *
                    by_cases hh : hasOf j l = true
                    · rw [hh] at s1
                      by_cases hx0 : x = 0
                      · have hn : upTo Q (j + 1) = c := by
                          have : mo.testBit i = false := by
                            cases hb : mo.testBit i with
                            | false => rfl
                            | true => exact absurd hx0 (hbit.2 hb)
                          rw [hst, hQj, this]; simp
                        subst hx0
                        have HN : Hid (upTo Q (j + 1) = c) := hn
                        clear hn hst hQj hbit hh
                        go_wp2_with fail
                        go_quiet (fail)
                        go_wp2
                        go_roundw
                        case rel => exact ⟨j + 1, by omega, by go_num, by rw [HN.out], HBj.out.drewN _, HMj.out⟩
                        case measure => simp [intOf]; omega
                      · have hn : upTo Q (j + 1) = c + 1 := by rw [hst, hQj, hh, hbit.1 hx0]; rfl
                        have HN : Hid (upTo Q (j + 1) = c + 1) := hn
                        clear hn hst hQj hbit hh
                        go_wp2_with fail
                        go_quiet (fail)
                        go_wp2
                        go_roundw
                        case rel => exact ⟨j + 1, by omega, by go_num, by rw [HN.out]; go_num, HBj.out.drewN _, HMj.out⟩
                        case measure => simp [intOf]; omega
                    · have hh : hasOf j l = false := by simpa using hh
                      rw [hh] at s1
                      have hn : upTo Q (j + 1) = c := by rw [hst, hQj, hh]; simp
                      have HN : Hid (upTo Q (j + 1) = c) := hn
                      clear hn hst hQj hbit hh
                      go_wp2_with fail
                      go_quiet (fail)
                      go_wp2
                      go_roundw
                      case rel => exact ⟨j + 1, by omega, by go_num, by rw [HN.out], HBj.out.drewN _, HMj.out⟩
                      case measure => simp [intOf]; omega
                  · obtain rfl : j = 4 := by omega
                    rw [show (((4 : Nat)) : Int) = (4 : Int) from rfl, ← HH.out]
                    rw [← HH.out] at hup
                    have s1 : wr.cell? ⟨e, 2 + i, none⟩ = some (.int .i64 (holdOf l i : Nat)) := by rw [cell_of_row _ _ _ _ _ _ hBj.lock.ent]; exact entCells_at _ _ _ _ _ i hlt
                    generalize holdOf l i = H at *
                    have HBj : Hid (Boxes w wr n e mp ow nm ft l wt) := hBj
                    have HMj : Hid (wr.heap[m]? = some (.cells bitsC 27 (0, 0))) := hMj
                    clear hBj hMj HH HQ
                    go_wp2_with fail
                    go_roundw
                    case rel => exact ⟨i + 1, by omega, by go_num, HBj.out, HMj.out⟩
                    case measure => simp [intOf]; omega
              · obtain rfl : i = 4 := by omega
                rw [show (((4 : Nat)) : Int) = (4 : Int) from rfl]
                have hbl := hBi.below
                clear hBi hMi
                go_wp2_with fail
                go_ret
                exact ⟨rfl, hbl⟩

end Go.Proofs.YbulkscaDoor
