import Derived.Test.YbulkrzwU32
import Derived.Laws.AppendOwnNone
namespace Go.Proofs.Ybulkrzw
open Go.RowKit
set_option linter.unusedVariables false

/-- What appendMessage writes behind what was there. -/
def msg (kd num : Int) (ps : List Int) : List Int := kd :: (be4 (num % 4294967296) ++ (be4 ps.length ++ ps))

theorem length_msg (kd num : Int) (ps : List Int) : (msg kd num ps).length = 9 + ps.length := by simp [msg, be4]; omega

/-- A row of one element type does not lie in a block of another. -/
theorem own_ne {w : World} {B e size n : Nat} {v : Value} {xs : List Value} (h : w.ownsRow B e size v n xs) {k t : Nat} {c : Array Value} {m : Nat × Nat} (hk : w.heap[k]? = some (.cells c t m)) (ht : t ≠ e) : some k ≠ v.ownBlock := by
  intro hv
  rcases h.2 with ⟨rfl, _⟩ | ⟨g, cap, cur, rfl, _, hg, _⟩
  · simp [Value.ownBlock] at hv
  · simp [Value.ownBlock] at hv
    subst hv
    rw [hg] at hk
    simp at hk
    exact ht hk.2.1.symm

theorem cell_of_block {w : World} {k t : Nat} {c : Array Value} {m : Nat × Nat} (hk : w.heap[k]? = some (.cells c t m)) (j : Nat) : w.cell? ⟨k, j, none⟩ = c[j]? := cell_of_row w k j c t m hk

set_option maxHeartbeats 400000 in
set_option maxRecDepth 100000 in
theorem appendMessage_any (B n : Nat) (kd num : Int) (hk : (Lit.int .u8 kd).wf = true) (sv : Value) (xs : List Value) (pa : Option Addr) (pl pc : Nat) (ps : List Int) (w : World)
    (hown : w.ownsRow B 5 1 sv n xs) (hBw : B ≤ w.heap.size) (hlim : n ≤ 2000) (hps : ps.length = pl) (hpl : pl ≤ 2000)
    (hnone : pa = none → pl = 0 ∧ pc = 0) (hc : ∀ x, pa = some x → ∀ j u, (ps.map (Value.int .u8))[j]? = some u → w.cell? (x.add j) = some u ∧ (x.add j).block < B) :
    Calls Yba.prog 9 #[sv, .agg #[.int .i64 num, .int .u8 kd, .slice pa pl pc]] w fun e w' => ∃ v', e = .returned v' ∧ w'.ownsRow B 5 1 v' (n + 9 + pl) (xs ++ (msg kd num ps).map (Value.int .u8)) ∧ Below B w w' := by
  obtain ⟨i0, hi, hz0, hz1, hz2⟩ := info_parts info5
  go_enter Yba.func9, Yba.ntmps9
  go_wp2_with (at_builtin; refine wpList_append_own _ rfl _ _ 22 rfl B 5 i0 (.int .u8 0) 1 1 Yba.underlying22 hi hz0 hz1 hz2 rfl (by decide) _ _ _ rfl ((hown.alloc _).alloc _) _ 1 1 [Value.int .u8 kd] rfl rfl ?c1 ?c2 ?c3 ?c4 ?c5 ?_)
  case c1 =>
    intro j u hj
    match j, hj with
    | 0, hj => simp at hj; subst hj; simp [Addr.add]
  case c2 => exact ints_oneCell _ [kd]
  case c3 => unfold maxLen; omega
  case c4 => omega
  case c5 => simp; omega
  intro v1 w1 hown1 hgrow1 _
  have hne0 : some w.heap.size ≠ sv.ownBlock := fun e => by have := (hown.lt _ e.symm).2; omega
  have hb1 : w1.heap[w.heap.size]? = some (.cells #[.int .i64 num, .int .u8 kd, .slice pa pl pc] 26 (0, 0)) := by
    rw [hgrow1.block _ (by simp; omega) hne0]
    exact (Below.heap_alloc _ _ _ (by simp)).trans (heap_alloc_new w _)
  have hs1 : w.heap.size + 2 ≤ w1.heap.size := by simpa using hgrow1.size
  have b1 : Below B w w1 := (((Below.refl B w).alloc hBw _).alloc (by simp; omega) _).grown hgrow1 (by simp; omega) (fun k hk => (hown.lt k hk).1)
  clear hgrow1
  have c10 : w1.cell? ⟨w.heap.size, 0, none⟩ = some (.int .i64 num) := by rw [cell_of_block hb1]; rfl
  have HB1 : Hid (w1.heap[w.heap.size]? = some (.cells #[.int .i64 num, .int .u8 kd, .slice pa pl pc] 26 (0, 0))) := hb1
  clear hb1
  go_wp2_with fail
  refine (au32 B (n + 1) _ (by omega) (by omega) v1 _ w1 hown1 (by omega) (by omega)).mono ?_
  rintro e w2 ⟨v2, rfl, hown2, hgrow2⟩
  have hne1 : some w.heap.size ≠ v1.ownBlock := own_ne hown1 HB1.out (by decide)
  have hb2 : w2.heap[w.heap.size]? = some (.cells #[.int .i64 num, .int .u8 kd, .slice pa pl pc] 26 (0, 0)) := by
    rw [hgrow2.block _ (by omega) hne1]; exact HB1.out
  have hs2 : w.heap.size + 2 ≤ w2.heap.size := Nat.le_trans hs1 hgrow2.size
  have b2 : Below B w w2 := b1.grown hgrow2 (by omega) (fun k hk => (hown1.lt k hk).1)
  clear hgrow2 hne1 HB1 c10 b1
  have c20 : w2.cell? ⟨w.heap.size, 2, none⟩ = some (.slice pa pl pc) := by rw [cell_of_block hb2]; rfl
  have HB2 : Hid (w2.heap[w.heap.size]? = some (.cells #[.int .i64 num, .int .u8 kd, .slice pa pl pc] 26 (0, 0))) := hb2
  clear hb2
  go_wp2_with fail
  refine (au32 B (n + 1 + 4) _ (by omega) (by omega) v2 _ w2 hown2 (by omega) (by omega)).mono ?_
  rintro e w3 ⟨v3, rfl, hown3, hgrow3⟩
  have hne2 : some w.heap.size ≠ v2.ownBlock := own_ne hown2 HB2.out (by decide)
  have hb3 : w3.heap[w.heap.size]? = some (.cells #[.int .i64 num, .int .u8 kd, .slice pa pl pc] 26 (0, 0)) := by
    rw [hgrow3.block _ (by omega) hne2]; exact HB2.out
  have hs3 : w.heap.size + 2 ≤ w3.heap.size := Nat.le_trans hs2 hgrow3.size
  have b3 : Below B w w3 := b2.grown hgrow3 (by omega) (fun k hk => (hown2.lt k hk).1)
  clear hgrow3 hne2 HB2 c20 b2
  have c30 : w3.cell? ⟨w.heap.size, 2, none⟩ = some (.slice pa pl pc) := by rw [cell_of_block hb3]; rfl
  clear hb3
  cases pa with
  | none =>
    obtain ⟨rfl, rfl⟩ := hnone rfl
    obtain rfl : ps = [] := List.eq_nil_of_length_eq_zero hps
    go_wp2_with (at_builtin; refine wpList_append_own_none rfl _ _ 22 rfl B 5 i0 1 Yba.underlying22 hi _ _ _ rfl hown3 rfl ?_)
    go_ret
    exact ⟨v3, rfl, by simpa [msg] using hown3, b3⟩
  | some x =>
    go_wp2_with (at_builtin; refine wpList_append_own _ rfl _ _ 22 rfl B 5 i0 (.int .u8 0) 1 1 Yba.underlying22 hi hz0 hz1 hz2 rfl (by decide) _ _ _ rfl hown3 x pl pc (ps.map (Value.int .u8)) rfl ?c0 ?c1 ?c2 ?c3 ?c4 ?c5 ?_)
    case c0 => simp [hps]
    case c1 =>
      intro j u hj
      obtain ⟨h1, h2⟩ := hc x rfl j u hj
      rw [b3.cell h2]; exact h1
    case c2 => exact ints_oneCell _ _
    case c3 => unfold maxLen; omega
    case c4 => omega
    case c5 => omega
    intro v4 w4 hown4 hgrow4 _
    go_wp2
    go_ret
    exact ⟨v4, rfl, by simpa [msg, hps, Nat.add_assoc] using hown4, b3.grown hgrow4 (by omega) (fun k hk => (hown3.lt k hk).1)⟩

end Go.Proofs.Ybulkrzw
