import Derived.Test.YbulkscaDoorLock
namespace Go.Proofs.YbulkscaDoor
open Go.RowKit
set_option linter.unusedVariables false

/-- What the variable 'modes' holds. -/
def modesC : Array Value := #[.int .u8 1, .string ⟨#[73, 83]⟩, .int .u8 7, .int .u8 2, .string ⟨#[83]⟩, .int .u8 3, .int .u8 4, .string ⟨#[73, 88]⟩, .int .u8 5, .int .u8 8, .string ⟨#[88]⟩, .int .u8 0]
theorem index0 (w : World) : (Instr.index 55 (.agg modesC) (.int .i64 0)).run Ybad.prog w = .ok (.agg #[.int .u8 1, .string ⟨#[73, 83]⟩, .int .u8 7]) w := by kernel_rfl
theorem index1 (w : World) : (Instr.index 55 (.agg modesC) (.int .i64 1)).run Ybad.prog w = .ok (.agg #[.int .u8 2, .string ⟨#[83]⟩, .int .u8 3]) w := by kernel_rfl
theorem index2 (w : World) : (Instr.index 55 (.agg modesC) (.int .i64 2)).run Ybad.prog w = .ok (.agg #[.int .u8 4, .string ⟨#[73, 88]⟩, .int .u8 5]) w := by kernel_rfl
theorem index3 (w : World) : (Instr.index 55 (.agg modesC) (.int .i64 3)).run Ybad.prog w = .ok (.agg #[.int .u8 8, .string ⟨#[88]⟩, .int .u8 0]) w := by kernel_rfl

theorem ent_set (nm : ByteArray) (mp : Nat) (ft : Option Addr) (L i : Nat) (f g : Nat → Nat) (hi : i < 4) (h : ∀ j, j < 4 → j ≠ i → f j = g j) : (entCells nm mp f ft L).setIfInBounds (2 + i) (.int .i64 (g i : Nat)) = entCells nm mp g ft L := by
  have : i = 0 ∨ i = 1 ∨ i = 2 ∨ i = 3 := by omega
  rcases this with rfl | rfl | rfl | rfl
  · simp [entCells, h 1 (by omega) (by omega), h 2 (by omega) (by omega), h 3 (by omega) (by omega)]
  · simp [entCells, h 0 (by omega) (by omega), h 2 (by omega) (by omega), h 3 (by omega) (by omega)]
  · simp [entCells, h 0 (by omega) (by omega), h 1 (by omega) (by omega), h 3 (by omega) (by omega)]
  · simp [entCells, h 0 (by omega) (by omega), h 1 (by omega) (by omega), h 2 (by omega) (by omega)]

/-- The counts while they are being raised. -/
def midH (l : List (Nat × Nat)) (k m i : Nat) : Nat → Nat := fun j => if j < i then holdOf (addL l k m) j else holdOf l j
theorem midH_step (l : List (Nat × Nat)) (k m i : Nat) : ∀ j, j ≠ i → midH l k m i j = midH l k m (i + 1) j := by
  intro j hj
  unfold midH
  by_cases e : j < i
  · rw [if_pos e, if_pos (by omega)]
  · rw [if_neg e, if_neg (by omega)]

def Added (B : Nat) (w : World) (e mp : Nat) (ow : Nat → Nat) (nm : ByteArray) (ft : Option Addr) (l : List (Nat × Nat)) (k m : Nat) (en : Ending) (w' : World) : Prop :=
  en = .returned (.tuple #[]) ∧ LockIn B w' e mp ow nm ft (addL l k m) ∧ w.heap.size ≤ w'.heap.size ∧ w'.os = w.os ∧ w'.tape = w.tape ∧ w'.output = w.output ∧
    ∀ g, g < w.heap.size → g ≠ e → g ≠ mp → (∀ j, j < 4 → g ≠ ow j) → w'.heap[g]? = w.heap[g]?

set_option maxHeartbeats 2000000 in
set_option maxRecDepth 100000 in
theorem add_any {B : Nat} {w : World} {e mp : Nat} {ow : Nat → Nat} {nm : ByteArray} {ft : Option Addr} {l : List (Nat × Nat)} (h : LockIn B w e mp ow nm ft l) (hB : B ≤ w.heap.size) (hnm : nm.size ≤ 1048576) (k m : Nat) (hk : k < 4) (hm : m < 256) (hlen : l.length ≤ 4) (tg : TypeId) (fr : Nat × Nat) (hG : w.heap[0]? = some (.cells modesC tg fr)) (hB0 : 0 < B) :
    Calls Ybad.prog 7 #[.pointer (some ⟨e, 0, none⟩), .pointer (some ⟨ow k, 0, none⟩), .int .u8 m] w (Added B w e mp ow nm ft l k m) := by
  have hinj : ∀ p ∈ l, ow k = ow p.1 → k = p.1 := fun p hp he => h.inj k p.1 hk (h.keys p hp).1 he
  obtain ⟨es, clock, hmap, hents⟩ := h.map
  have hblk : ∀ p ∈ atBlocks ow l, ∃ c, w.heap[p.1]? = some (.cells c 45 (0, 0)) := by
    intro p hp
    obtain ⟨q, hq, rfl⟩ := List.mem_map.1 hp
    exact h.block q.1 (h.keys q hq).1
  obtain ⟨ck, hck⟩ := h.block k hk
  have hlk := lookup_run w mp (ow k) hck es clock hmap _ hents hblk
  rw [(modeOf_blocks ow k l hinj).1, (modeOf_blocks ow k l hinj).2] at hlk
  unfold ptr at hlk
  have q1 : w.cell? ⟨e, 1, none⟩ = some (.map (some mp)) := by rw [cell_of_row _ _ _ _ _ _ h.ent]; rfl
  have hek : e ≠ ow k := by
    intro e1
    have h1 := h.ent
    rw [e1, hck] at h1
    simp at h1
  have hmk : mp ≠ ow k := by
    intro e1
    rw [e1, hck] at hmap
    cases hmap
  have q0 : w.cell? ⟨e, 0, none⟩ = some (.string nm) := by rw [cell_of_row _ _ _ _ _ _ h.ent]; rfl
  have q6 : w.cell? ⟨e, 6, none⟩ = some (.pointer ft) := by rw [cell_of_row _ _ _ _ _ _ h.ent]; rfl
  have hez := lt_of_heap h.ent
  have hkz := lt_of_heap hck
  have nl41 : ∀ (W : World) (x : Option Addr) (l c : Nat), (binOp .eql 41 (.slice x l c) (.slice none 0 0)).run Ybad.prog W = .ok (.bool x.isNone) W := fun W x l c => Lib.run_eql_slice_nil W _ _ x l c 0 0 Ybad.underlying41
  obtain ⟨i0, hi, hz0, hz1, hz2⟩ := info_parts info23
  go_enter Ybad.func7, Ybad.ntmps7
  go_upto_if 20 with fail
  go_cut [6, 7, 10, 16, 18, 19, 20] (fun x _ _ _ _ _ _ wr => x = .int .u8 (modeOf k l : Nat) ∧ Holds B wr e (ow k) (256 + nm.size) (wfOf ft) ∧ (∀ g, g < w.heap.size → g ≠ ow k → wr.heap[g]? = w.heap[g]?) ∧ w.heap.size ≤ wr.heap.size ∧ wr.os = w.os ∧ wr.tape = w.tape ∧ wr.output = w.output)
  case first =>
    by_cases hh : hasOf k l = true
    · have hy := h.yes k hk hh
      rw [hh]
      clear hh
      go_wp2_with fail
      go_meet
      case rel => exact ⟨rfl, hy, fun _ _ _ => rfl, Nat.le_refl _, rfl, rfl, rfl⟩
    · have hh : hasOf k l = false := by simpa using hh
      have hno := h.no k hk hh
      rw [hh]
      have c1 : w.cell? ⟨ow k, 1, none⟩ = some (.slice none 0 0) := by rw [cell_of_row _ _ _ _ _ _ hno]; rfl
      have f1 : w.frozen? ⟨ow k, 1, none⟩ = false := frozen_of_row _ _ _ _ _ hno
      have mk8 := make8
      have hown : ((w.setCell ⟨ow k, 1, none⟩ (.slice (some ⟨w.heap.size, 0, none⟩) 0 8)).alloc (.cells #[.pointer none, .pointer none, .pointer none, .pointer none, .pointer none, .pointer none, .pointer none, .pointer none] 23)).ownsRow w.heap.size 23 1 (.slice (some ⟨w.heap.size, 0, none⟩) 0 8) 0 [] := by
        have := World.ownsRow_made (base := w.heap.size) (e := 23) (size := 1) (w.setCell ⟨ow k, 1, none⟩ (.slice (some ⟨w.heap.size, 0, none⟩) 0 8)) #[.pointer none, .pointer none, .pointer none, .pointer none, .pointer none, .pointer none, .pointer none, .pointer none] 8 (by simp) (by unfold maxLen; omega) rfl
        simpa using this
      go_wp2_with (at_builtin; refine wpList_append_fits _ rfl _ _ 41 rfl w.heap.size 23 i0 1 Ybad.underlying41 hi hz1 w.heap.size 0 8 [] rfl (hown.alloc _) _ 1 1 [ptr e] rfl rfl ?c1 ?c2 ?c3 ?_)
      case c1 =>
        intro j u hj
        match j, hj with
        | 0, hj =>
          simp at hj
          subst hj
          rw [Addr.add_lit]
          exact World.cell?_alloc_at _ _ _ _ (by simp)
      case c2 => intro u hu; simp at hu; subst hu; rfl
      case c3 => omega
      intro w1 hown1 hgrow1
      have hk1 : w1.heap[ow k]? = some (.cells #[.int .i64 0, .slice (some ⟨w.heap.size, 0, none⟩) 0 8, .int .i64 0, .pointer none, .int .u64 0, .nilIface, .int .u64 0, .int .i64 0] 45 (0, 0)) := by
        rw [hgrow1.block _ (by simp; omega) (fun e1 => by simp at e1; omega), heap_past _ _ _ (by simp; omega), heap_past _ _ _ (by simpa using hkz), heap_setCell_same _ _ _ _ _ _ hno]
        rfl
      have ho1 : ∀ g, g < w.heap.size → g ≠ ow k → w1.heap[g]? = w.heap[g]? := by
        intro g hg hne
        rw [hgrow1.block _ (by simp; omega) (fun e1 => by simp at e1; omega), heap_past _ _ _ (by simp; omega), heap_past _ _ _ (by simpa using hg), Below.heap_setCell _ _ _ _ hne]
      have hs1 : w.heap.size + 2 ≤ w1.heap.size := by have := hgrow1.size; simp at this; omega
      have g1 : ∃ hc, w1.heap[w.heap.size]? = some (.cells hc 23 (0, 0)) ∧ hc[0]? = some (ptr e) := by
        rcases hown1.2 with ⟨h1, _⟩ | ⟨g, cap, cur, hv, _, hg, _, _, _, ht⟩
        · simp at h1
        · simp at hv
          obtain ⟨rfl, rfl⟩ := hv
          refine ⟨cur, hg, ?_⟩
          have h2 : (cur.toList.take (1 * 1))[0]? = some (ptr e) := by rw [ht]; rfl
          simpa using h2
      have os1 : w1.os = w.os ∧ w1.tape = w.tape ∧ w1.output = w.output := ⟨hgrow1.os, hgrow1.tape, hgrow1.output⟩
      have d1 : w1.cell? ⟨ow k, 1, none⟩ = some (.slice (some ⟨w.heap.size, 0, none⟩) 0 8) := by rw [cell_of_row _ _ _ _ _ _ hk1]; rfl
      have d1f : w1.frozen? ⟨ow k, 1, none⟩ = false := frozen_of_row _ _ _ _ _ hk1
      clear hown hown1 hgrow1 c1 f1 mk8 nl41
      go_upto_region 5 with fail
      obtain ⟨X, hX⟩ : ∃ X, X = w1.setCell ⟨ow k, 1, none⟩ (.slice (some ⟨w.heap.size, 0, none⟩) 1 8) := ⟨_, rfl⟩
      rw [← hX]
      have hkX : X.heap[ow k]? = some (.cells #[.int .i64 0, .slice (some ⟨w.heap.size, 0, none⟩) 1 8, .int .i64 0, .pointer none, .int .u64 0, .nilIface, .int .u64 0, .int .i64 0] 45 (0, 0)) := by
        rw [hX, heap_setCell_same _ _ _ _ _ _ hk1]; rfl
      have hoX : ∀ g, g ≠ ow k → X.heap[g]? = w1.heap[g]? := fun g hne => by rw [hX, Below.heap_setCell _ _ _ _ hne]
      have hsX : X.heap.size = w1.heap.size := by rw [hX]; simp
      have osX : X.os = w.os ∧ X.tape = w.tape ∧ X.output = w.output := by rw [hX]; exact os1
      have x2 : X.cell? ⟨ow k, 2, none⟩ = some (.int .i64 0) := by rw [cell_of_row _ _ _ _ _ _ hkX]; rfl
      have x7 : X.cell? ⟨ow k, 7, none⟩ = some (.int .i64 0) := by rw [cell_of_row _ _ _ _ _ _ hkX]; rfl
      have xf : ∀ j, X.frozen? ⟨ow k, j, none⟩ = false := fun j => frozen_of_row _ _ _ _ _ hkX
      have xe : X.heap[e]? = some (.cells (entCells nm mp (holdOf l) ft l.length) 39 (0, 0)) := by rw [hoX e hek, ho1 e hez hek]; exact h.ent
      have x0 : X.cell? ⟨e, 0, none⟩ = some (.string nm) := by rw [cell_of_row _ _ _ _ _ _ xe]; rfl
      have x6 : X.cell? ⟨e, 6, none⟩ = some (.pointer ft) := by rw [cell_of_row _ _ _ _ _ _ xe]; rfl
      have xf2 := xf 2
      have xf7 := xf 7
      have FIN : Hid (∀ W : World, W.heap = ((X.setCell ⟨ow k, 2, none⟩ (.int .i64 (256 + nm.size : Nat))).setCell ⟨ow k, 7, none⟩ (.int .i64 (wfOf ft : Nat))).heap → W.os = X.os → W.tape = X.tape → W.output = X.output →
          Holds B W e (ow k) (256 + nm.size) (wfOf ft) ∧ (∀ g, g < w.heap.size → g ≠ ow k → W.heap[g]? = w.heap[g]?) ∧ w.heap.size ≤ W.heap.size ∧ W.os = w.os ∧ W.tape = w.tape ∧ W.output = w.output) := by
        intro W e1 e2 e3 e4
        obtain ⟨hc, hc1, hc2⟩ := g1
        refine ⟨⟨w.heap.size, hc, ?_, ?_, hc2, hB⟩, fun g hg hne => ?_, ?_, e2.trans osX.1, e3.trans osX.2.1, e4.trans osX.2.2⟩
        · rw [e1, heap_setCell_same _ _ _ _ _ _ (heap_setCell_same _ _ _ _ _ _ hkX)]; rfl
        · rw [e1, Below.heap_setCell _ _ _ _ (show w.heap.size ≠ ow k by omega), Below.heap_setCell _ _ _ _ (show w.heap.size ≠ ow k by omega), hoX _ (by omega)]; exact hc1
        · rw [e1, Below.heap_setCell _ _ _ _ hne, Below.heap_setCell _ _ _ _ hne, hoX g hne]; exact ho1 g hg hne
        · rw [e1]; simp; omega
      have FIN0 : Hid (ft = none → ∀ W : World, W.heap = (X.setCell ⟨ow k, 2, none⟩ (.int .i64 (256 + nm.size : Nat))).heap → W.os = X.os → W.tape = X.tape → W.output = X.output →
          Holds B W e (ow k) (256 + nm.size) (wfOf ft) ∧ (∀ g, g < w.heap.size → g ≠ ow k → W.heap[g]? = w.heap[g]?) ∧ w.heap.size ≤ W.heap.size ∧ W.os = w.os ∧ W.tape = w.tape ∧ W.output = w.output) := by
        intro hft W e1 e2 e3 e4
        subst hft
        obtain ⟨hc, hc1, hc2⟩ := g1
        refine ⟨⟨w.heap.size, hc, ?_, ?_, hc2, hB⟩, fun g hg hne => ?_, ?_, e2.trans osX.1, e3.trans osX.2.1, e4.trans osX.2.2⟩
        · rw [e1, heap_setCell_same _ _ _ _ _ _ hkX]; rfl
        · rw [e1, Below.heap_setCell _ _ _ _ (show w.heap.size ≠ ow k by omega), hoX _ (by omega)]; exact hc1
        · rw [e1, Below.heap_setCell _ _ _ _ hne, hoX g hne]; exact ho1 g hg hne
        · rw [e1]; simp; omega
      clear hX hkX hoX hsX osX xf xe hk1 ho1 hs1 g1 os1 d1 d1f hno hlk q0 q1 q6 hh
      go_region_with (go_at_call 8; refine (weight_any nm _ hnm).mono ?_; rintro en w2 ⟨rfl, hw2⟩; have hw3 := hw2.symm; subst hw3; clear hw2)
      all_goals
        cases ft with
        | none =>
          go_wp2_with fail
          go_meet
          case rel =>
            refine ⟨rfl, FIN0.out (by first | exact rfl | exact trivial) _ ?_ ?_ ?_ ?_⟩
            · rfl
            · rfl
            · rfl
            · rfl
        | some a =>
          go_wp2_with fail
          go_meet
          case rel =>
            refine ⟨rfl, FIN.out _ ?_ ?_ ?_ ?_⟩
            · rfl
            · rfl
            · rfl
            · rfl
  case rest =>
    obtain ⟨rfl, hHo, hoth, hsz, hos, htp, hout⟩ := hcut
    obtain ⟨wb, hwb⟩ : ∃ wb, wb = wc := ⟨_, rfl⟩
    subst hwb
    have hent : wb.heap[e]? = some (.cells (entCells nm mp (holdOf l) ft l.length) 39 (0, 0)) := by rw [hoth e hez hek]; exact h.ent
    have hmap2 : wb.heap[mp]? = some (.map es clock) := by rw [hoth mp (lt_of_heap hmap) hmk]; exact hmap
    obtain ⟨hb, hc, hHk, hHb, hHc, hBb⟩ := hHo
    have hblk2 : ∀ p ∈ atBlocks ow l, ∃ c, wb.heap[p.1]? = some (.cells c 45 (0, 0)) := by
      intro p hp
      by_cases e1 : p.1 = ow k
      · rw [e1]; exact ⟨_, hHk⟩
      · obtain ⟨c, hc⟩ := hblk p hp
        exact ⟨c, by rw [hoth p.1 (lt_of_heap hc) e1]; exact hc⟩
    obtain ⟨es', clock', hup, hents'⟩ := update_run wb mp (ow k) (modeOf k l ||| m) hHk es clock hmap2 _ hents hblk2
    rw [putAt_blocks ow k _ l hinj] at hents'
    have hmo : modeOf k l < 256 := modeOf_small l k (fun p hp => (h.keys p hp).2)
    have hor := u8_or_nat (modeOf k l) m hmo hm
    obtain ⟨Y, hY⟩ : ∃ Y : World, Y = { wb with heap := wb.heap.setIfInBounds mp (.map es' clock') } := ⟨_, rfl⟩
    rw [← hY] at hup
    unfold ptr at hup
    have y1 : wb.cell? ⟨e, 1, none⟩ = some (.map (some mp)) := by rw [cell_of_row _ _ _ _ _ _ hent]; rfl
    have HY : Hid (Y = { wb with heap := wb.heap.setIfInBounds mp (.map es' clock') }) := hY
    have hemp : e ≠ mp := by
      intro e1
      rw [e1, hmap2] at hent
      cases hent
    have hYo : ∀ g, g ≠ mp → Y.heap[g]? = wb.heap[g]? := fun g hne => by rw [hY]; simp [hne.symm]
    have hYm : Y.heap[mp]? = some (.map es' clock') := by
      rw [hY]
      have := lt_of_heap hmap2
      simp [this]
    have hYs : Y.heap.size = wb.heap.size := by rw [hY]; simp
    have hYz : Y.os = w.os ∧ Y.tape = w.tape ∧ Y.output = w.output := by rw [hY]; exact ⟨hos, htp, hout⟩
    have hYe : Y.heap[e]? = some (.cells (entCells nm mp (holdOf l) ft l.length) 39 (0, 0)) := by rw [hYo e hemp]; exact hent
    have hesz : es'.size = (addL l k m).length := by
      have := congrArg List.length hents'
      simpa [atBlocks, addL] using this
    have y8 : Y.cell? ⟨e, 8, none⟩ = some (.int .i64 (l.length : Nat)) := by rw [cell_of_row _ _ _ _ _ _ hYe]; rfl
    have y1' : Y.cell? ⟨e, 1, none⟩ = some (.map (some mp)) := by rw [cell_of_row _ _ _ _ _ _ hYe]; rfl
    have f8 : Y.frozen? ⟨e, 8, none⟩ = false := frozen_of_row _ _ _ _ _ hYe
    obtain ⟨L', hL'⟩ : ∃ L', L' = (addL l k m).length := ⟨_, rfl⟩
    have hLb : l.length ≤ L' ∧ L' ≤ l.length + 1 := by
      rw [hL', addL_length]
      cases hasOf k l <;> simp
    have hlenr : ∀ ty, (Builtin.len_ #[31] ty #[.map (some mp)]).run Ybad.prog Y.drew = .ok (.int .i64 (L' : Nat)) Y.drew := fun ty => by
      have h1 := MapKept.run_getObj_map (P := Ybad.prog) (w := Y.drew) (r := mp) hYm
      simp [Builtin.len_, run_underlying Ybad.underlying31, h1, hesz, hL', goInt]
    have HL' : Hid (L' = (addL l k m).length) := hL'
    clear nl41 q0 q1 q6 hlk hY hL' hesz
    go_upto_region 9 with fail
    go_cut [85] (fun _ wr => wr.heap = (Y.setCell ⟨e, 8, none⟩ (.int .i64 (L' : Nat))).heap ∧ wr.os = w.os ∧ wr.tape = w.tape ∧ wr.output = w.output)
    case first =>
      go_region
      all_goals go_wp2_with fail
      all_goals go_meet
      · case rel => exact ⟨rfl, hYz.1, hYz.2.1, hYz.2.2⟩
      · case rel =>
          have hle : L' = l.length := by omega
          refine ⟨?_, hYz.1, hYz.2.1, hYz.2.2⟩
          rw [hle]
          rfl
    case rest =>
      obtain ⟨hwh, hwos, hwtp, hwout⟩ := hcut
      have zent : wc.heap[e]? = some (.cells (entCells nm mp (holdOf l) ft L') 39 (0, 0)) := by
        rw [hwh, heap_setCell_same _ _ _ _ _ _ hYe]; rfl
      have zoth : ∀ g, g ≠ e → wc.heap[g]? = Y.heap[g]? := fun g hne => by rw [hwh, Below.heap_setCell _ _ _ _ hne]
      have zsz : wc.heap.size = Y.heap.size := by rw [hwh]; simp
      have be0 := h.be
      have bm0 := h.bm
      have bk0 := h.bo k hk
      have zg : wc.heap[0]? = some (.cells modesC tg fr) := by
        rw [zoth 0 (by omega), hYo 0 (by omega), hoth 0 (lt_of_heap hG) (by omega)]; exact hG
      have i0 := index0
      have i1 := index1
      have i2 := index2
      have i3 := index3
      have han := u8_andNot_nat m (modeOf k l) hm hmo
      obtain ⟨x, hx⟩ : ∃ x, x = m &&& (255 - modeOf k l) := ⟨_, rfl⟩
      have hx256 : x < 256 := by rw [hx]; exact Nat.lt_of_le_of_lt Nat.and_le_left hm
      rw [← hx] at han
      obtain ⟨bb0, hy0⟩ : ∃ y, y = x &&& 2 ^ 0 := ⟨_, rfl⟩
      have ha0 : bits .and .u8 (x : Int) 1 = (bb0 : Int) := by rw [hy0]; exact u8_and_nat x 1 hx256 (by omega)
      have HY0 : Hid (bb0 = x &&& 2 ^ 0) := hy0
      clear hy0
      obtain ⟨bb1, hy1⟩ : ∃ y, y = x &&& 2 ^ 1 := ⟨_, rfl⟩
      have ha1 : bits .and .u8 (x : Int) 2 = (bb1 : Int) := by rw [hy1]; exact u8_and_nat x 2 hx256 (by omega)
      have HY1 : Hid (bb1 = x &&& 2 ^ 1) := hy1
      clear hy1
      obtain ⟨bb2, hy2⟩ : ∃ y, y = x &&& 2 ^ 2 := ⟨_, rfl⟩
      have ha2 : bits .and .u8 (x : Int) 4 = (bb2 : Int) := by rw [hy2]; exact u8_and_nat x 4 hx256 (by omega)
      have HY2 : Hid (bb2 = x &&& 2 ^ 2) := hy2
      clear hy2
      obtain ⟨bb3, hy3⟩ : ∃ y, y = x &&& 2 ^ 3 := ⟨_, rfl⟩
      have ha3 : bits .and .u8 (x : Int) 8 = (bb3 : Int) := by rw [hy3]; exact u8_and_nat x 8 hx256 (by omega)
      have HY3 : Hid (bb3 = x &&& 2 ^ 3) := hy3
      clear hy3
      have HX : Hid (x = m &&& (255 - modeOf k l)) := hx
      clear hwh hx y8 y1' y1 f8 hup hor hlenr
      go_wp2_with (refine wpList_load_row rfl 55 _ rfl 0 rfl tg _ fr _ zg Ybad.underlying55 rfl (by kernel_rfl) ?_)
      have hhl : ∀ j, holdOf l j ≤ 4 := fun j => Nat.le_trans List.countP_le_length hlen
      have hstep : ∀ j, j < 4 → holdOf (addL l k m) j = holdOf l j + if x &&& 2 ^ j ≠ 0 then 1 else 0 := fun j hj => by
        rw [HX.out]; exact holdOf_add l k m j hj (fun p hp => (h.keys p hp).2)
      have HST : Hid (∀ j, j < 4 → holdOf (addL l k m) j = holdOf l j + if x &&& 2 ^ j ≠ 0 then 1 else 0) := hstep
      have HHL : Hid (∀ j, holdOf l j ≤ 4) := hhl
      clear hstep hhl
      go_loopw [87] (fun s wr => ∃ i : Nat, i ≤ 4 ∧ s = .int .i64 i ∧ wr.heap[e]? = some (.cells (entCells nm mp (midH l k m i) ft L') 39 (0, 0)) ∧ (∀ g, g < wc.heap.size → g ≠ e → wr.heap[g]? = wc.heap[g]?) ∧ wc.heap.size ≤ wr.heap.size ∧ wr.os = w.os ∧ wr.tape = w.tape ∧ wr.output = w.output) (fun s _ => 4 - (intOf s).toNat)
      case atStart => exact ⟨0, Nat.zero_le _, rfl, zent, fun _ _ _ => rfl, Nat.le_refl _, hwos, hwtp, hwout⟩
      case round =>
        obtain ⟨i, hi4, rfl, re, ro, rs, ros, rtp, rout⟩ := hrel
        have rez := lt_of_heap re
        by_cases hlt : i < 4
        · have hold := HST.out i hlt
          have hhi := HHL.out i
          have rf : wr.frozen? ⟨e, 2 + i, none⟩ = false := frozen_of_row _ _ _ _ _ re
          have hms : midH l k m i i = holdOf l i := by simp [midH]
          have hmt : midH l k m (i + 1) i = holdOf (addL l k m) i := by simp [midH]
          have hset := ent_set nm mp ft L' i (midH l k m i) (midH l k m (i + 1)) hlt (fun j _ hj => midH_step l k m i j hj)
          have hse : (wr.setCell ⟨e, 2 + i, none⟩ (.int .i64 (midH l k m (i + 1) i : Nat))).heap[e]? = some (.cells (entCells nm mp (midH l k m (i + 1)) ft L') 39 (0, 0)) := by
            rw [heap_setCell_same _ _ _ _ _ _ re, hset]
          have hsk : ¬ (x &&& 2 ^ i ≠ 0) → entCells nm mp (midH l k m i) ft L' = entCells nm mp (midH l k m (i + 1)) ft L' := by
            intro hz
            rw [if_neg hz, Nat.add_zero] at hold
            rw [← hset]
            have hcur : (entCells nm mp (midH l k m i) ft L')[2 + i]? = some (.int .i64 (midH l k m i i : Nat)) := by
              have : i = 0 ∨ i = 1 ∨ i = 2 ∨ i = 3 := by omega
              rcases this with rfl | rfl | rfl | rfl <;> rfl
            apply Array.ext_getElem?
            intro j
            by_cases ej : 2 + i = j
            · subst ej
              rw [hcur, Array.getElem?_setIfInBounds_self, if_pos (by simp [entCells]; omega), hmt, hms, hold]
            · rw [Array.getElem?_setIfInBounds_ne (by omega)]
          have rc : wr.cell? ⟨e, 2 + i, none⟩ = some (.int .i64 (holdOf l i : Nat)) := by
            rw [cell_of_row _ _ _ _ _ _ re, ← hms]
            have : i = 0 ∨ i = 1 ∨ i = 2 ∨ i = 3 := by omega
            rcases this with rfl | rfl | rfl | rfl <;> rfl
          rw [hmt, hold] at hse
          have HSE : Hid ((wr.setCell ⟨e, 2 + i, none⟩ (.int .i64 (holdOf l i + (if x &&& 2 ^ i ≠ 0 then 1 else 0) : Nat))).heap[e]? = some (.cells (entCells nm mp (midH l k m (i + 1)) ft L') 39 (0, 0))) := hse
          have HSK : Hid (¬ (x &&& 2 ^ i ≠ 0) → entCells nm mp (midH l k m i) ft L' = entCells nm mp (midH l k m (i + 1)) ft L') := hsk
          have HRE : Hid (wr.heap[e]? = some (.cells (entCells nm mp (midH l k m i) ft L') 39 (0, 0))) := re
          have HRO : Hid (∀ g, g < wc.heap.size → g ≠ e → wr.heap[g]? = wc.heap[g]?) := ro
          have hcases : i = 0 ∨ i = 1 ∨ i = 2 ∨ i = 3 := by omega
          generalize holdOf l i = hc0 at *
          clear hse hsk hset hms hmt hold re ro
          rcases hcases with rfl | rfl | rfl | rfl
          · by_cases hbit : bb0 = 0
            · have HBT : Hid (x &&& 2 ^ 0 = 0) := by have := HY0.out; rw [hbit] at this; exact this.symm
              have tb : ((bb0 : Int) != 0) = false := by simp [hbit]
              clear hbit
              go_wp2_with fail
              go_roundw
              case rel => exact ⟨1, by omega, by go_num, (heap_past _ _ _ rez).trans (by rw [HRE.out, HSK.out (fun hn => hn HBT.out)]), fun g hg hne => (heap_past _ _ _ (by omega)).trans (HRO.out g hg hne), by simp; omega, ros, rtp, rout⟩
              case measure => simp [intOf]
            · have tb : ((bb0 : Int) != 0) = true := by simp [hbit]
              have HBT : Hid (x &&& 2 ^ 0 ≠ 0) := by have := HY0.out; rw [← this]; exact hbit
              clear hbit
              have hse : (wr.setCell ⟨e, 2 + 0, none⟩ (.int .i64 ((hc0 : Int) + 1))).heap[e]? = some (.cells (entCells nm mp (midH l k m 1) ft L') 39 (0, 0)) := by
                have h1 := HSE.out
                rw [if_pos HBT.out] at h1
                exact h1
              have HS1 : Hid ((wr.setCell ⟨e, 2 + 0, none⟩ (.int .i64 ((hc0 : Int) + 1))).heap[e]? = some (.cells (entCells nm mp (midH l k m 1) ft L') 39 (0, 0))) := hse
              clear hse
              go_wp2_with fail
              go_region
              go_wp2_with fail
              go_roundw
              case rel => exact ⟨1, by omega, by go_num, (heap_past _ _ _ (by simpa using rez)).trans HS1.out, fun g hg hne => ((heap_past _ _ _ (by simp; omega)).trans (Below.heap_setCell _ _ _ _ hne)).trans (HRO.out g hg hne), by simp; omega, ros, rtp, rout⟩
              case measure => simp [intOf]
          · by_cases hbit : bb1 = 0
            · have HBT : Hid (x &&& 2 ^ 1 = 0) := by have := HY1.out; rw [hbit] at this; exact this.symm
              have tb : ((bb1 : Int) != 0) = false := by simp [hbit]
              clear hbit
              go_wp2_with fail
              go_roundw
              case rel => exact ⟨2, by omega, by go_num, (heap_past _ _ _ rez).trans (by rw [HRE.out, HSK.out (fun hn => hn HBT.out)]), fun g hg hne => (heap_past _ _ _ (by omega)).trans (HRO.out g hg hne), by simp; omega, ros, rtp, rout⟩
              case measure => simp [intOf]
            · have tb : ((bb1 : Int) != 0) = true := by simp [hbit]
              have HBT : Hid (x &&& 2 ^ 1 ≠ 0) := by have := HY1.out; rw [← this]; exact hbit
              clear hbit
              have hse : (wr.setCell ⟨e, 2 + 1, none⟩ (.int .i64 ((hc0 : Int) + 1))).heap[e]? = some (.cells (entCells nm mp (midH l k m 2) ft L') 39 (0, 0)) := by
                have h1 := HSE.out
                rw [if_pos HBT.out] at h1
                exact h1
              have HS1 : Hid ((wr.setCell ⟨e, 2 + 1, none⟩ (.int .i64 ((hc0 : Int) + 1))).heap[e]? = some (.cells (entCells nm mp (midH l k m 2) ft L') 39 (0, 0))) := hse
              clear hse
              go_wp2_with fail
              go_region
              go_wp2_with fail
              go_roundw
              case rel => exact ⟨2, by omega, by go_num, (heap_past _ _ _ (by simpa using rez)).trans HS1.out, fun g hg hne => ((heap_past _ _ _ (by simp; omega)).trans (Below.heap_setCell _ _ _ _ hne)).trans (HRO.out g hg hne), by simp; omega, ros, rtp, rout⟩
              case measure => simp [intOf]
          · by_cases hbit : bb2 = 0
            · have HBT : Hid (x &&& 2 ^ 2 = 0) := by have := HY2.out; rw [hbit] at this; exact this.symm
              have tb : ((bb2 : Int) != 0) = false := by simp [hbit]
              clear hbit
              go_wp2_with fail
              go_roundw
              case rel => exact ⟨3, by omega, by go_num, (heap_past _ _ _ rez).trans (by rw [HRE.out, HSK.out (fun hn => hn HBT.out)]), fun g hg hne => (heap_past _ _ _ (by omega)).trans (HRO.out g hg hne), by simp; omega, ros, rtp, rout⟩
              case measure => simp [intOf]
            · have tb : ((bb2 : Int) != 0) = true := by simp [hbit]
              have HBT : Hid (x &&& 2 ^ 2 ≠ 0) := by have := HY2.out; rw [← this]; exact hbit
              clear hbit
              have hse : (wr.setCell ⟨e, 2 + 2, none⟩ (.int .i64 ((hc0 : Int) + 1))).heap[e]? = some (.cells (entCells nm mp (midH l k m 3) ft L') 39 (0, 0)) := by
                have h1 := HSE.out
                rw [if_pos HBT.out] at h1
                exact h1
              have HS1 : Hid ((wr.setCell ⟨e, 2 + 2, none⟩ (.int .i64 ((hc0 : Int) + 1))).heap[e]? = some (.cells (entCells nm mp (midH l k m 3) ft L') 39 (0, 0))) := hse
              clear hse
              go_wp2_with fail
              go_region
              go_wp2_with fail
              go_roundw
              case rel => exact ⟨3, by omega, by go_num, (heap_past _ _ _ (by simpa using rez)).trans HS1.out, fun g hg hne => ((heap_past _ _ _ (by simp; omega)).trans (Below.heap_setCell _ _ _ _ hne)).trans (HRO.out g hg hne), by simp; omega, ros, rtp, rout⟩
              case measure => simp [intOf]
          · by_cases hbit : bb3 = 0
            · have HBT : Hid (x &&& 2 ^ 3 = 0) := by have := HY3.out; rw [hbit] at this; exact this.symm
              have tb : ((bb3 : Int) != 0) = false := by simp [hbit]
              clear hbit
              go_wp2_with fail
              go_roundw
              case rel => exact ⟨4, by omega, by go_num, (heap_past _ _ _ rez).trans (by rw [HRE.out, HSK.out (fun hn => hn HBT.out)]), fun g hg hne => (heap_past _ _ _ (by omega)).trans (HRO.out g hg hne), by simp; omega, ros, rtp, rout⟩
              case measure => simp [intOf]
            · have tb : ((bb3 : Int) != 0) = true := by simp [hbit]
              have HBT : Hid (x &&& 2 ^ 3 ≠ 0) := by have := HY3.out; rw [← this]; exact hbit
              clear hbit
              have hse : (wr.setCell ⟨e, 2 + 3, none⟩ (.int .i64 ((hc0 : Int) + 1))).heap[e]? = some (.cells (entCells nm mp (midH l k m 4) ft L') 39 (0, 0)) := by
                have h1 := HSE.out
                rw [if_pos HBT.out] at h1
                exact h1
              have HS1 : Hid ((wr.setCell ⟨e, 2 + 3, none⟩ (.int .i64 ((hc0 : Int) + 1))).heap[e]? = some (.cells (entCells nm mp (midH l k m 4) ft L') 39 (0, 0))) := hse
              clear hse
              go_wp2_with fail
              go_region
              go_wp2_with fail
              go_roundw
              case rel => exact ⟨4, by omega, by go_num, (heap_past _ _ _ (by simpa using rez)).trans HS1.out, fun g hg hne => ((heap_past _ _ _ (by simp; omega)).trans (Below.heap_setCell _ _ _ _ hne)).trans (HRO.out g hg hne), by simp; omega, ros, rtp, rout⟩
              case measure => simp [intOf]
        · obtain rfl : i = 4 := by omega
          have hkeys := addL_keys l k m
          have hkk : hasOf k (addL l k m) = true := by
            rw [hasOf_iff, hkeys]
            cases hh : hasOf k l with
            | true => simpa using (hasOf_iff k l).1 hh
            | false => simp
          have hjj : ∀ j, j ≠ k → hasOf j (addL l k m) = hasOf j l := by
            intro j hj
            rw [Bool.eq_iff_iff, hasOf_iff, hasOf_iff, hkeys]
            cases hasOf k l <;> simp [hj]
          have tb : ∀ g, g < wb.heap.size → g ≠ e → g ≠ mp → wr.heap[g]? = wb.heap[g]? := fun g hg h1 h2 => by
            rw [ro g (by omega) h1, zoth g h1, hYo g h2]
          have tw : ∀ g, g < w.heap.size → g ≠ e → g ≠ mp → g ≠ ow k → wr.heap[g]? = w.heap[g]? := fun g hg h1 h2 h3 => by
            rw [tb g (by omega) h1 h2]; exact hoth g hg h3
          have ne_e : ∀ (W : World) g c t, W.heap[e]? = some (.cells (entCells nm mp (holdOf l) ft l.length) 39 (0, 0)) → W.heap[g]? = some (.cells c t (0, 0)) → t ≠ 39 → g ≠ e := by
            intro W g c t h1 h2 ht e1
            rw [e1, h1] at h2
            simp at h2
            exact ht h2.2.symm
          have ne_m : ∀ (W : World) g c t, W.heap[mp]? = some (.map es clock) → W.heap[g]? = some (.cells c t (0, 0)) → g ≠ mp := by
            intro W g c t h1 h2 e1
            rw [e1, h1] at h2
            cases h2
          have hfin : LockIn B wr e mp ow nm ft (addL l k m) := by
            refine ⟨?_, ⟨es', clock', ?_, hents'⟩, ?_, ?_, h.inj, ?_, h.be, h.bm, h.bo⟩
            · rw [re, HL'.out]
              simp [entCells, midH]
            · have hmz := lt_of_heap hYm
              rw [ro mp (by omega) hemp.symm, zoth mp hemp.symm]; exact hYm
            · intro j hj hhas
              by_cases e1 : j = k
              · subst e1
                exact ⟨hb, hc, by rw [tb _ (lt_of_heap hHk) (ne_e wb _ _ _ hent hHk (by decide)) (ne_m wb _ _ _ hmap2 hHk)]; exact hHk, by rw [tb _ (lt_of_heap hHb) (ne_e wb _ _ _ hent hHb (by decide)) (ne_m wb _ _ _ hmap2 hHb)]; exact hHb, hHc, hBb⟩
              · rw [hjj j e1] at hhas
                obtain ⟨hb', hc', g1, g2, g3, g4⟩ := h.yes j hj hhas
                have n1 : ow j ≠ ow k := fun e2 => e1 (h.inj j k hj hk e2)
                have n2 : hb' ≠ ow k := by
                  intro e2
                  rw [e2, hck] at g2
                  simp at g2
                exact ⟨hb', hc', by rw [tw _ (lt_of_heap g1) (ne_e w _ _ _ h.ent g1 (by decide)) (ne_m w _ _ _ hmap g1) n1]; exact g1, by rw [tw _ (lt_of_heap g2) (ne_e w _ _ _ h.ent g2 (by decide)) (ne_m w _ _ _ hmap g2) n2]; exact g2, g3, g4⟩
            · intro j hj hhas
              have e1 : j ≠ k := by
                intro e2
                rw [e2, hkk] at hhas
                cases hhas
              rw [hjj j e1] at hhas
              have g1 := h.no j hj hhas
              rw [tw _ (lt_of_heap g1) (ne_e w _ _ _ h.ent g1 (by decide)) (ne_m w _ _ _ hmap g1) (fun e2 => e1 (h.inj j k hj hk e2))]
              exact g1
            · intro p hp
              refine ⟨?_, addL_small l k m hm (fun q hq => (h.keys q hq).2) p hp⟩
              have h1 : p.1 ∈ keysOf (addL l k m) := List.mem_map.2 ⟨p, hp, rfl⟩
              rw [hkeys] at h1
              have h2 : p.1 ∈ keysOf l ∨ p.1 = k := by
                by_cases hh : hasOf k l = true
                · rw [hh] at h1; exact .inl (by simpa using h1)
                · rw [Bool.not_eq_true] at hh; rw [hh] at h1; simpa using h1
              rcases h2 with h2 | h2
              · obtain ⟨q, hq, e1⟩ := List.mem_map.1 h2
                rw [← e1]; exact (h.keys q hq).1
              · rw [h2]; exact hk
          go_wp2_with fail
          go_end0
          refine ⟨rfl, hfin, ?_, ros, rtp, rout, ?_⟩
          · omega
          · intro g hg hne hnm2 hno
            rw [ro g (by omega) hne, zoth g hne, hYo g hnm2]
            exact hoth g hg (hno k hk)

end Go.Proofs.YbulkscaDoor
