import Derived.Test.YbulkrzwRows
import Derived.WalkKit
import Derived.ProofKit
import Derived.Below
import Derived.Deep.Draws
namespace Go.Proofs.Ybulkrzw
open Go.RowKit
set_option linter.unusedVariables false

theorem info5 : (Yba.prog.info? 5).map (fun i => (i.zero, i.size, i.bytes)) = some (some (.int .u8 0), 1, 1) := by kernel_rfl

/-- The four bytes of a number, the greatest first. -/
def be4 (v : Int) : List Int := [v / 16777216, v / 65536 % 256, v / 256 % 256, v % 256]

theorem grownBy_trans {a b c : World} {row : Option Nat} (h : a.grownBy b row) (k : b.grownBy c row) : a.grownBy c row :=
  ⟨k.os.trans h.os, k.tape.trans h.tape, k.output.trans h.output, Nat.le_trans h.size k.size,
    fun i hi hne => (k.block i (Nat.lt_of_lt_of_le hi h.size) hne).trans (h.block i hi hne)⟩

set_option maxHeartbeats 400000 in
set_option maxRecDepth 100000 in
theorem au32 (B n : Nat) (v : Int) (h0 : 0 ≤ v) (h1 : v ≤ 4294967295) (sv : Value) (xs : List Value) (w : World) (hown : w.ownsRow B 5 1 sv n xs) (hBw : B ≤ w.heap.size) (hlim : n ≤ 100000) :
    Calls Yba.prog 23 #[.agg #[], sv, .int .u32 v] w fun e w' => ∃ v', e = .returned v' ∧ w'.ownsRow B 5 1 v' (n + 4) (xs ++ (be4 v).map (Value.int .u8)) ∧ w.grownBy w' sv.ownBlock := by
  obtain ⟨i0, hi, hz0, hz1, hz2⟩ := info_parts info5
  go_enter Yba.func23, Yba.ntmps23
  go_wp2_with (at_builtin; refine wpList_append_own _ rfl _ _ 22 rfl B 5 i0 (.int .u8 0) 1 1 Yba.underlying22 hi hz0 hz1 hz2 rfl (by decide) _ _ _ rfl ((hown.alloc _).alloc _) _ 4 4 ((be4 v).map (Value.int .u8)) rfl rfl ?c1 ?c2 ?c3 ?c4 ?c5 ?_)
  case c1 =>
    intro j u hj
    match j, hj with
    | 0, hj => simp [be4] at hj; subst hj; simp [Addr.add]
    | 1, hj => simp [be4] at hj; subst hj; simp [Addr.add]
    | 2, hj => simp [be4] at hj; subst hj; simp [Addr.add]
    | 3, hj => simp [be4] at hj; subst hj; simp [Addr.add]
  case c2 => exact ints_oneCell _ _
  case c3 => unfold maxLen; omega
  case c4 => omega
  case c5 => simp; omega
  intro v' w2 hown' hgrow _
  go_wp2
  go_ret
  exact ⟨v', rfl, hown', grownBy_trans (World.grownBy_alloc w _ _) (grownBy_trans (World.grownBy_alloc _ _ _) hgrow)⟩

end Go.Proofs.Ybulkrzw
