import Derived.Test.YbulkscaDoorState
import Derived.ProofKit
import Derived.LaidMore
import Derived.OpenShut
import Derived.Stop.Joined
import Derived.Deep.Strs
import Derived.Deep.SlicePairs
namespace Go.Proofs.YbulkscaDoor
open Go.ChangeShapes Go.WideShapes Go.ChangeAt Go.RowKit
set_option linter.unusedVariables false

theorem cells54 : Ybad.prog.cellsOf 54 = 3 := by kernel_rfl
theorem cells55 : Ybad.prog.cellsOf 55 = 12 := by kernel_rfl
theorem cells52 : Ybad.prog.cellsOf 52 = 2 := by kernel_rfl
theorem cells26 : Ybad.prog.cellsOf 26 = 1 := by kernel_rfl
theorem cells5 : Ybad.prog.cellsOf 5 = 1 := by kernel_rfl
theorem cells9 : Ybad.prog.cellsOf 9 = 1 := by kernel_rfl
theorem gModes : Ybad.prog.globalNamed "example.com/seriatim/seriatim/lock.modes" = some 0 := by kernel_rfl
theorem tModes : (Ybad.prog.globals[0]?).map (·.type) = some 55 := by kernel_rfl

/-- One entry of the table, read back into its three cells. -/
theorem mode_elem {H : Type} {enc : TypeId × Value → H} {W : World} {sp : Nat → Bool} {held : Bool} {fuel : Nat} {cs : List Value} {a b : Int} {s : List UInt8} {y : DataW H × List MemPlace} (h : DataW.trod enc Ybad.prog W 0 sp held fuel 54 cs = some y) (hy : y.1 = .agg [.lit (.int .u8 a), .lit (.string s), .lit (.int .u8 b)]) :
    cs = [.int .u8 a, .string ⟨s.toArray⟩, .int .u8 b] := by
  obtain ⟨y0, y1, y2, n, rfl, hl, h0, h1, h2⟩ := Deep.trod_struct3 Ybad.underlying54 h
  obtain ⟨n0, e0, rfl, _⟩ := DataW.trod_int Ybad.underlying26 h0
  obtain ⟨s1, e1, rfl, _⟩ := DataW.trod_string Ybad.underlying9 h1
  obtain ⟨n2, e2, rfl, _⟩ := DataW.trod_int Ybad.underlying26 h2
  simp only [DataW.agg.injEq, List.cons.injEq, DataW.lit.injEq, Lit.int.injEq, true_and, Lit.string.injEq, and_true] at hy
  obtain ⟨rfl, rfl, rfl⟩ := hy
  rw [cells54] at hl
  simp only [cells26, cells9] at e0 e1 e2
  match cs, hl with
  | [c0, c1, c2], _ =>
    simp at e0 e1 e2
    subst e0 e1 e2
    simp

theorem modes_of_laid {W : World} (h : laidMetH Ybad.prog [("example.com/seriatim/seriatim/lock.modes", Rows.laid_example_com_seriatim_seriatim_lock_modes)] W) : ∃ tg fr, W.heap[0]? = some (.cells modesC tg fr) := by
  rw [MakeChecks.laidMetH_plain _ _ _ (by kernel_rfl)] at h
  obtain ⟨ps, ⟨g0, t0, cs0, f0, p0, q0, hg0, ht0, hv0, hd0, _, _⟩, _, _⟩ := h
  obtain rfl := Option.some.inj (gModes.symm.trans hg0)
  obtain rfl := Option.some.inj (tModes.symm.trans ht0)
  obtain ⟨xs, m, rfl, hx, hlen, hn, hel⟩ := DataW.trod_array Ybad.underlying55 hd0
  rw [cells55] at hlen
  simp only [cells54] at hel
  match xs, hn, hx, hel with
  | [x0, x1, x2, x3], _, hx, hel =>
    simp only [Prod.mk.injEq, Rows.laid_example_com_seriatim_seriatim_lock_modes, List.map_cons, List.map_nil, DataW.agg.injEq, List.cons.injEq, and_true] at hx
    obtain ⟨⟨y0, y1, y2, y3⟩, _⟩ := hx
    have a0 := mode_elem (hel 0 (by decide)) y0.symm
    have a1 := mode_elem (hel 1 (by decide)) y1.symm
    have a2 := mode_elem (hel 2 (by decide)) y2.symm
    have a3 := mode_elem (hel 3 (by decide)) y3.symm
    unfold World.var? at hv0
    rw [gModes] at hv0
    simp only [Option.bind_some] at hv0
    have hcs : cs0 = modesC := by
      obtain ⟨l⟩ := cs0
      match l, hlen with
      | [c0, c1, c2, c3, c4, c5, c6, c7, c8, c9, c10, c11], _ =>
        simp at a0 a1 a2 a3
        simp [modesC, a0, a1, a2, a3]
    cases hh : W.heap[0]? with
    | none => rw [hh] at hv0; cases hv0
    | some o =>
      cases o with
      | cells c tg fr =>
        rw [hh] at hv0
        simp at hv0
        exact ⟨tg, fr, by rw [hv0, hcs]⟩
      | _ => rw [hh] at hv0; cases hv0

theorem u8_range {n : Int} (h : (Lit.int .u8 n).wf = true) : 0 ≤ n ∧ n < 256 := by
  simp [Lit.wf, IntKind.min, IntKind.max, IntKind.signed, IntKind.bits] at h
  omega

/-- A slice of steps that came in. -/
theorem steps_of {H : Type} {enc : TypeId × Value → H} {W : World} {held : Bool} {fuel : Nat} {a : Option Addr} {len cap : Nat} {x : DataW H × List MemPlace} (h : DataW.trod enc Ybad.prog W 0 (fun _ => true) held fuel 22 [.slice a len cap] = some x) :
    len < 9223372036854775808 ∧ ∃ zs, len ≤ 1024 → StepsIn W a len cap zs := by
  rcases Deep.open_slice_pairs Ybad.underlying22 Ybad.underlying52 cells52 rfl rfl cells5 cells5 h with ⟨hcs, _⟩ | ⟨b, len', cap', m, n, V0, V1, D0, D1, P0, P1, hcs, _, hl, hc, hm, _, hcell⟩
  · simp at hcs
    obtain ⟨rfl, rfl, rfl⟩ := hcs
    exact ⟨by decide, [], fun _ => ⟨rfl, by decide, fun p hp => by simp at hp, fun h => absurd h (by decide)⟩⟩
  · simp at hcs
    obtain ⟨rfl, rfl, rfl⟩ := hcs
    have hm' : m = cap := by simpa using hm
    subst hm'
    refine ⟨by unfold maxLen at hc; omega, (List.range len).map fun i => ((match V0 i with | .int _ n => n.toNat | _ => 0), (match V1 i with | .int _ n => n.toNat | _ => 0)), fun hle => ?_⟩
    have hv : ∀ i, i < m → ∃ n0 n1 : Nat, V0 i = .int .u8 n0 ∧ V1 i = .int .u8 n1 ∧ n0 < 256 ∧ n1 < 256 := by
      intro i hi
      obtain ⟨_, _, t0, t1⟩ := hcell i hi
      obtain ⟨n0, e0, _, w0⟩ := DataW.trod_int Ybad.underlying5 t0
      obtain ⟨n1, e1, _, w1⟩ := DataW.trod_int Ybad.underlying5 t1
      have r0 := u8_range w0
      have r1 := u8_range w1
      refine ⟨n0.toNat, n1.toNat, ?_, ?_, by omega, by omega⟩
      · simp at e0; rw [e0]; congr 1; omega
      · simp at e1; rw [e1]; congr 1; omega
    refine ⟨by simp, hle, ?_, ?_⟩
    · intro p hp
      obtain ⟨i, hi, rfl⟩ := List.mem_map.1 hp
      obtain ⟨n0, n1, e0, e1, l0, l1⟩ := hv i (by simp at hi; omega)
      simp only [e0, e1, Int.toNat_natCast]
      exact ⟨l0, l1⟩
    · intro hpos
      obtain ⟨c0, _⟩ := hcell 0 (by omega)
      obtain ⟨bb, off, spot⟩ := b
      obtain rfl : spot = none := by
        cases spot with
        | none => rfl
        | some s =>
          simp [Addr.add, World.cell?] at c0
          split at c0 <;> simp at c0
      refine ⟨bb, off, rfl, ?_, ?_⟩
      · unfold World.cell? Addr.add at c0
        simp at c0
        cases hh : W.heap[bb]? with
        | none => rw [hh] at c0; cases c0
        | some o => exact lt_of_heap hh
      · intro i hi
        obtain ⟨d0, d1, _, _⟩ := hcell i (by omega)
        obtain ⟨n0, n1, e0, e1, l0, l1⟩ := hv i (by omega)
        rw [Addr.add_lit] at d0 d1
        rw [List.getD_eq_getElem?_getD, List.getElem?_map, List.getElem?_range hi]
        simp only [Option.map_some, Option.getD_some, e0, e1, Int.toNat_natCast]
        exact ⟨by rw [d0, e0], by rw [show off + i * 2 + 1 = off + (i * 2 + 1) by omega, d1, e1]⟩
end Go.Proofs.YbulkscaDoor
