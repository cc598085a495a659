import Derived.Test.YbulkrzwTree
import Derived.OpenShut
import Derived.WalkSpells
namespace Go.Proofs.Ybulkrzw
open Go.RowKit
set_option linter.unusedVariables false

def CommanderMade (n m c : Nat) (a : Int) (w : World) (e : Ending) (w' : World) : Prop :=
  ∃ p hv, e = .returned (.pointer (some ⟨p, 0, none⟩)) ∧ w'.heap[p]? = some (.cells #[.int .i64 n, .int .i64 m, .int .i64 c, .int .i64 c, .pointer none, hv, .bool true, .int .i64 a] 69 (0, 0)) ∧ Below w.heap.size w w'

set_option maxHeartbeats 1000000 in
set_option maxRecDepth 100000 in
theorem newCommander_any (n m c : Nat) (a : Int) (w : World) (hn : n ≤ 8) : Calls Yba.prog 20 #[.int .i64 n, .int .i64 m, .int .i64 c, .int .i64 c, .int .i64 a] w (CommanderMade n m c a w) := by
  have mk42 := fun W => make_small info4 Yba.underlying42 (by decide) rfl (n : Int) (n : Int) n n rfl rfl (Nat.le_refl _) (by omega) W
  obtain ⟨L2, hL2⟩ : ∃ L0, L0 = (List.replicate n (Value.bool false)).toArray := ⟨_, rfl⟩
  rw [← hL2] at mk42
  clear hL2
  go_enter Yba.func20, Yba.ntmps20
  go_wp2
  go_ret
  refine ⟨_, _, rfl, heap_at _ _ _ (by simp), ?_⟩
  exact ((Below.refl _ w).alloc (Nat.le_refl _) _).alloc (by simp) _

set_option maxHeartbeats 1000000 in
set_option maxRecDepth 100000 in
theorem sendCommander_no (p n m c : Nat) (hv : Value) (a r : Int) (w : World) (hp : w.heap[p]? = some (.cells #[.int .i64 n, .int .i64 m, .int .i64 c, .int .i64 c, .pointer none, hv, .bool true, .int .i64 a] 69 (0, 0))) (hr : (r == 1) = false) :
    Calls Yba.prog 21 #[.pointer (some ⟨p, 0, none⟩), .int .i64 r] w fun e w' => e = .returned (.tuple #[.slice none 0 0, .bool false]) ∧ w' = w := by
  have q4 : w.cell? ⟨p, 4, none⟩ = some (.pointer none) := by rw [cell_of_row _ _ _ _ _ _ hp]; rfl
  clear hp
  go_enter Yba.func21, Yba.ntmps21
  go_wp2
  go_ret2
  exact ⟨rfl, rfl⟩

set_option maxHeartbeats 1000000 in
set_option maxRecDepth 100000 in
theorem sendCommander_yes (p n m c : Nat) (hv : Value) (a : Int) (w : World) (hp : w.heap[p]? = some (.cells #[.int .i64 n, .int .i64 m, .int .i64 c, .int .i64 c, .pointer none, hv, .bool true, .int .i64 a] 69 (0, 0))) :
    Calls Yba.prog 21 #[.pointer (some ⟨p, 0, none⟩), .int .i64 1] w fun e w' => e = .returned (.tuple #[.slice (some ⟨w.heap.size, 0, none⟩) 1 1, .bool true]) ∧ w' = w.alloc (.cells #[.int .i64 a] 2) := by
  have q4 : w.cell? ⟨p, 4, none⟩ = some (.pointer none) := by rw [cell_of_row _ _ _ _ _ _ hp]; rfl
  have q7 : w.cell? ⟨p, 7, none⟩ = some (.int .i64 a) := by rw [cell_of_row _ _ _ _ _ _ hp]; rfl
  clear hp
  go_enter Yba.func21, Yba.ntmps21
  go_wp2
  go_ret2
  exact ⟨rfl, rfl⟩

set_option maxHeartbeats 1000000 in
set_option maxRecDepth 100000 in
theorem commander_walk (a0 a1 a2 a3 a4 : Int) (w : World) (w0 : (Lit.int .u8 a0).wf = true) (w1 : (Lit.int .u8 a1).wf = true) (w2 : (Lit.int .u8 a2).wf = true) (w3 : (Lit.int .i64 a3).wf = true) (w4 : (Lit.int .i64 a4).wf = true) :
    Calls Yba.prog 7 #[.int .u8 a0, .int .u8 a1, .int .u8 a2, .int .i64 a3, .int .i64 a4] w fun e w' => e = .returned (.bool true) ∧ Below w.heap.size w w' := by
  have b0 := bounds_u8 w0
  have b1 := bounds_u8 w1
  have b2 := bounds_u8 w2
  obtain ⟨n, hn⟩ : ∃ n : Nat, 2 + a0 % 7 = (n : Int) := ⟨(2 + a0 % 7).toNat, by omega⟩
  obtain ⟨m, hm⟩ : ∃ n : Nat, a1 % 8 = (n : Int) := ⟨(a1 % 8).toNat, by omega⟩
  have hn2 : 2 ≤ n ∧ n ≤ 8 := by omega
  obtain ⟨c, hc⟩ : ∃ d : Nat, a2 % (n : Int) = (d : Int) := ⟨(a2 % (n : Int)).toNat, by have := Int.emod_nonneg a2 (b := (n : Int)) (by omega); omega⟩
  have nl : ∀ (W : World) (x : Option Addr) (l c : Nat), (binOp .eql 40 (.slice x l c) (.slice none 0 0)).run Yba.prog W = .ok (.bool x.isNone) W := fun W x l c => Lib.run_eql_slice_nil W _ _ x l c 0 0 Yba.underlying40
  by_cases hr : a4 = 1
  · subst hr
    go_enter Yba.func7, Yba.ntmps7
    go_wp2_with fail
    refine (newCommander_any n m c a3 w (by omega)).mono ?_
    rintro e wc ⟨p, hv, rfl, hp, bw⟩
    have hs := sendCommander_yes p n m c hv a3 wc hp
    clear hp
    go_wp2_with fail
    refine hs.mono ?_
    rintro e wd ⟨rfl, rfl⟩
    clear hs
    go_wp2
    go_ret
    exact ⟨rfl, bw.alloc bw.size _⟩
  · have hr1 : (a4 == 1) = false := by simp [hr]
    go_enter Yba.func7, Yba.ntmps7
    go_wp2_with fail
    refine (newCommander_any n m c a3 w (by omega)).mono ?_
    rintro e wc ⟨p, hv, rfl, hp, bw⟩
    have hs := sendCommander_no p n m c hv a3 a4 wc hp hr1
    clear hp
    go_wp2_with fail
    refine hs.mono ?_
    rintro e wd ⟨rfl, hwd⟩
    have hw3 := hwd.symm; subst hw3; clear hwd
    clear hs
    go_wp2
    go_ret
    exact ⟨rfl, bw⟩

end Go.Proofs.Ybulkrzw
