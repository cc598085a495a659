import Derived.Test.YbulkscaDoorPlain
import Derived.Deep.DeepCutAuto
import Derived.Deep.QuietTactic
import Derived.BigQuiet
import Derived.BigRegion
import Derived.RegionTactic
import Derived.Deep.RegionWith
import Derived.WalkSpells
import Derived.WalkLawsBesides
import Derived.OpenShut
namespace Go.Proofs.YbulkscaDoor
open Go.RowKit
set_option linter.unusedVariables false

theorem heap_at (w : World) (o : Obj) (k : Nat) (hk : k = w.heap.size) : (w.alloc o).heap[k]? = some o := by subst hk; exact heap_alloc_new w o
theorem heap_past (w : World) (o : Obj) (k : Nat) (hk : k < w.heap.size) : (w.alloc o).heap[k]? = w.heap[k]? := Below.heap_alloc w o k hk
theorem lt_of_heap {w : World} {k : Nat} {o : Obj} (h : w.heap[k]? = some o) : k < w.heap.size := (Array.getElem?_eq_some_iff.1 h).1

def entCells (nm : ByteArray) (mp : Nat) (h : Nat → Nat) (ft : Option Addr) (mo : Nat) : Array Value := #[.string nm, .map (some mp), .int .i64 (h 0), .int .i64 (h 1), .int .i64 (h 2), .int .i64 (h 3), .pointer ft, .pointer ft, .int .i64 mo, .int .u64 0, .int .u16 0]
def freeOwner : Array Value := #[.int .i64 0, .slice none 0 0, .int .i64 0, .pointer none, .int .u64 0, .nilIface, .int .u64 0, .int .i64 0]
def heldOwner (hb wg wf : Nat) : Array Value := #[.int .i64 0, .slice (some ⟨hb, 0, none⟩) 1 8, .int .i64 wg, .pointer none, .int .u64 0, .nilIface, .int .u64 0, .int .i64 wf]
def wfOf (ft : Option Addr) : Nat := if ft.isSome then 1 else 0

/-- An owner that holds the lock once. -/
def Holds (B : Nat) (w : World) (e g wg wf : Nat) : Prop := ∃ hb hc, w.heap[g]? = some (.cells (heldOwner hb wg wf) 45 (0, 0)) ∧ w.heap[hb]? = some (.cells hc 23 (0, 0)) ∧ hc[0]? = some (ptr e) ∧ B ≤ hb

/-- A lock in memory: the entry in block e, its map in block mp, owner k in block 'ow k'; l: who holds it in which modes. -/
structure LockIn (B : Nat) (w : World) (e mp : Nat) (ow : Nat → Nat) (nm : ByteArray) (ft : Option Addr) (l : List (Nat × Nat)) : Prop where
  ent : w.heap[e]? = some (.cells (entCells nm mp (holdOf l) ft l.length) 39 (0, 0))
  map : ∃ es clock, w.heap[mp]? = some (.map es clock) ∧ Ents es.toList (atBlocks ow l)
  yes : ∀ k, k < 4 → hasOf k l = true → Holds B w e (ow k) (256 + nm.size) (wfOf ft)
  no : ∀ k, k < 4 → hasOf k l = false → w.heap[ow k]? = some (.cells freeOwner 45 (0, 0))
  inj : ∀ j k, j < 4 → k < 4 → ow j = ow k → j = k
  keys : ∀ p ∈ l, p.1 < 4 ∧ p.2 < 256
  be : B ≤ e
  bm : B ≤ mp
  bo : ∀ k, k < 4 → B ≤ ow k

theorem LockIn.block {B : Nat} {w : World} {e mp : Nat} {ow : Nat → Nat} {nm : ByteArray} {ft : Option Addr} {l : List (Nat × Nat)} (h : LockIn B w e mp ow nm ft l) (k : Nat) (hk : k < 4) : ∃ c, w.heap[ow k]? = some (.cells c 45 (0, 0)) := by
  cases hh : hasOf k l with
  | true => obtain ⟨hb, hc, h1, _⟩ := h.yes k hk hh; exact ⟨_, h1⟩
  | false => exact ⟨_, h.no k hk hh⟩

set_option maxHeartbeats 400000 in
theorem weight_any (s : ByteArray) (w : World) (hs : s.size ≤ 1048576) : Calls Ybad.prog 8 #[.string s] w fun e w' => e = .returned (.int .i64 (256 + s.size : Nat)) ∧ w' = w := by
  go_enter Ybad.func8, Ybad.ntmps8
  go_wp2
  go_ret
  exact ⟨by simp, rfl⟩

theorem info23 : (Ybad.prog.info? 23).map (fun i => (i.zero, i.size, i.bytes)) = some (some (.pointer none), 1, 8) := by kernel_rfl
theorem make8 (w : World) : (Instr.makeSlice 41 (.int .i64 0) (.int .i64 8)).run Ybad.prog w = .ok (.slice (some ⟨w.heap.size, 0, none⟩) 0 8) (w.alloc (.cells #[.pointer none, .pointer none, .pointer none, .pointer none, .pointer none, .pointer none, .pointer none, .pointer none] 23)) := by kernel_rfl

end Go.Proofs.YbulkscaDoor
