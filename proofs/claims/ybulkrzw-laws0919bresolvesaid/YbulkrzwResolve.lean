import Derived.Test.YbulkrzwModel
import Derived.Test.YbulkrzwWireWalk
namespace Go.Proofs.Ybulkrzw
open Go.RowKit
set_option linter.unusedVariables false

set_option maxHeartbeats 4000000 in
set_option maxRecDepth 100000 in
theorem resolve_walk (a0 a1 a2 : Int) (a3 : Option Addr) (len3 cap3 : Nat) (z3 : List Int) (w : World) (w0 : (Lit.int .u8 a0).wf = true) (w1 : (Lit.int .u8 a1).wf = true) (w2 : (Lit.int .i64 a2).wf = true) (w3 : RowIn .u8 w a3 len3 cap3 z3) (hlen3 : len3 ≤ maxLen) (hz3 : ∀ n ∈ z3, (Lit.int .u8 n).wf = true) :
    Calls Yba.prog 5 #[.int .u8 a0, .int .u8 a1, .int .i64 a2, .slice a3 len3 cap3] w fun e w' => e = .returned (.bool true) ∧ Below w.heap.size w w' := by
  have b0 := bounds_u8 w0
  have b1 := bounds_u8 w1
  obtain ⟨n, hn⟩ : ∃ n : Nat, a0 % 6 = (n : Int) := ⟨(a0 % 6).toNat, by omega⟩
  obtain ⟨d, hd⟩ : ∃ d : Nat, a1 % ((n : Int) + 1) = (d : Int) := ⟨(a1 % ((n : Int) + 1)).toNat, by have := Int.emod_nonneg a1 (b := (n : Int) + 1) (by omega); omega⟩
  have hn6 : n ≤ 5 := by omega
  have hdn : d ≤ n := by have := Int.emod_lt_of_pos a1 (b := (n : Int) + 1) (by omega); omega
  unfold maxLen at hlen3
  by_cases hd0 : d = 0
  · subst hd0
    go_enter Yba.func5, Yba.ntmps5
    go_wp2_with fail
    refine (eigNew_any n 0 a2 w (by omega) hdn).mono ?_
    rintro e wc ⟨p, t, lv, la, ia, lb, hv, rfl, hT, hp, bp, bw⟩
    have hds := decision_any p n 0 t hv _ _ wc hp
    simp only [beq_self_eq_true, ↓reduceIte] at hds
    clear hT hp
    go_wp2_with fail
    refine hds.mono ?_
    rintro e w6 ⟨rfl, q, rfl⟩
    clear hds
    go_wp2
    go_ret
    exact ⟨rfl, ⟨bw.os, bw.tape, bw.output, bw.size, bw.block⟩⟩
  have hd1 : ((d : Int) == 0) = false := by simp [hd0]
  go_enter Yba.func5, Yba.ntmps5
  go_wp2_with fail
  refine (eigNew_any n d a2 w (by omega) hdn).mono ?_
  rintro e wc ⟨p, t, lv, la, ia, lb, hv, rfl, hT, hp, bp, bw⟩
  have hE0 : EigIn w.heap.size w wc p t lv n d la ia hv lb (d == 0) (if d = 0 then a2 else 0) (vs0 n a2) := ⟨hT, fun k _ => vs0_length n a2 k, hp, bw⟩
  generalize (d == 0) = dec at hE0
  generalize (if d = 0 then a2 else 0) = val at hE0
  clear hT hp bw
  go_wp2_with fail
  go_loopw [14] (fun i wr => ∃ (k : Nat) (vs : Nat → List Int), 1 ≤ k ∧ k ≤ d ∧ i = .int .i64 k ∧ EigIn w.heap.size w wr p t lv n d la ia hv lb dec val vs) (fun i _ => d - (intOf i).toNat)
  case atStart => exact ⟨1, _, Nat.le_refl _, by omega, rfl, hE0⟩
  case round =>
    obtain ⟨k, vs, hk1, hk2, rfl, hE1⟩ := hrel
    clear hE0
    by_cases hlt : k < d
    · have hlev := hE1.level (by omega) k (by omega)
      have q2 := hE1.reads.1
      have hfl := fall_le n k (by omega) (by omega)
      go_wp2_with (go_at_call 15; refine hlev.mono ?_; rintro e w2 ⟨rfl, hw2⟩; have hw3 := hw2.symm; subst hw3; clear hw2)
      clear hlev q2
      go_loopw [66] (fun c wq => ∃ (i : Nat) (vs : Nat → List Int), i ≤ fall n k ∧ c = .int .i64 i ∧ EigIn w.heap.size w wq p t lv n d la ia hv lb dec val vs) (fun c _ => fall n k - (intOf c).toNat)
      case atStart => exact ⟨0, vs, Nat.zero_le _, rfl, hE1⟩
      case round =>
        obtain ⟨i, vs', hi, rfl, hE2⟩ := hrel
        clear hE1
        by_cases hlt2 : i < fall n k
        · have hst := hE2.store (j := i) hk2 ((i : Int) + (k : Int) + 7)
          have hcc := hE2.reads.2.1 k hk2 i hlt2
          have hff := hE2.reads.2.2 k hk2 i
          generalize (vs' k).getD i 0 = old at hcc
          clear hE2
          go_wp2_with fail
          go_roundw
          case rel => exact ⟨i + 1, _, by omega, by go_num, hst⟩
          case measure => simp [intOf]; omega
        · go_wp2_with fail
          go_roundw
          case rel => exact ⟨k + 1, vs', by omega, by omega, by go_num, hE2⟩
          case measure => simp [intOf]; omega
    · obtain rfl : k = d := by omega
      clear hlt
      have hlev := hE1.level (by omega) k (by omega)
      have q2 := hE1.reads.1
      have hfl := fall_le n k (by omega) (by omega)
      go_wp2_with (go_at_call 15; refine hlev.mono ?_; rintro e w2 ⟨rfl, hw2⟩; have hw3 := hw2.symm; subst hw3; clear hw2)
      clear hlev q2
      go_loopw [85] (fun c wq => ∃ (i : Nat) (vs : Nat → List Int), i ≤ fall n k ∧ c = .int .i64 i ∧ EigIn w.heap.size w wq p t lv n k la ia hv lb dec val vs) (fun c _ => fall n k - (intOf c).toNat)
      case atStart => exact ⟨0, vs, Nat.zero_le _, rfl, hE1⟩
      case round =>
        obtain ⟨i, vs', hi, rfl, hE2⟩ := hrel
        clear hE1
        by_cases hlt2 : i < fall n k
        · by_cases hl0 : len3 = 0
          · subst hl0
            go_wp2_with fail
            go_roundw
            case rel => exact ⟨i + 1, vs', by omega, by go_num, hE2⟩
            case measure => simp [intOf]; omega
          · obtain ⟨b, off, rfl, hcl, hbl⟩ := w3.at (by omega)
            have hmod : i % len3 < len3 := Nat.mod_lt _ (by omega)
            have hdat := (hE2.below.cell (p := ⟨b, off + i % len3, none⟩) hbl).trans (hcl (i % len3) hmod)
            have hzb : 0 ≤ z3.getD (i % len3) 0 ∧ z3.getD (i % len3) 0 ≤ 255 := by
              have := range_u8 hz3 (i % len3)
              simpa [List.getD] using this
            generalize z3.getD (i % len3) 0 = z at hdat hzb
            have hst := hE2.store (j := i) (Nat.le_refl k) (z % 3 - 1)
            have hcc := hE2.reads.2.1 k (Nat.le_refl _) i hlt2
            have hff := hE2.reads.2.2 k (Nat.le_refl _) i
            generalize (vs' k).getD i 0 = old at hcc
            have hl1 : (0 : Int) < (len3 : Int) := by omega
            clear hcl hE2
            go_wp2_with fail
            go_roundw
            case rel => exact ⟨i + 1, _, by omega, by go_num, hst⟩
            case measure => simp [intOf]; omega
        · have mk46 := fun W => make_small info40 Yba.underlying46 (by decide) rfl ((k : Int) + 1) ((k : Int) + 1) (k + 1) (k + 1) (by omega) (by omega) (Nat.le_refl _) (by omega) W
          obtain ⟨L0, hL0⟩ : ∃ L0, L0 = (List.replicate (k + 1) (Value.slice none 0 0)).toArray := ⟨_, rfl⟩
          rw [← hL0] at mk46
          have HL0 : Hid (L0 = (List.replicate (k + 1) (Value.slice none 0 0)).toArray) := hL0
          clear hL0
          have hlk := hE2.len k (Nat.le_refl _)
          have hlbk := lt_of_heap (hE2.tree.lev k (by omega))
          have hcl := clone_any (lb k) (fall n k) (fall n k) (vs' k) (wr.alloc (.cells L0 40)) hlk (by omega) (fun j hj => by
            rw [World.cell?_alloc_past _ _ _ hlbk, Nat.zero_add]
            exact hE2.reads.2.1 k (Nat.le_refl _) j hj) (by simp; omega)
          obtain ⟨wd, hwd⟩ : ∃ wd, wd = wr := ⟨_, rfl⟩
          subst hwd
          go_wp2_with fail
          clear hlt2 hi
          refine hcl.mono ?_
          rintro e w5 ⟨gm, cm, cur, rfl, hgm, htk, hcs, hlc, hcm, hHg, b5⟩
          clear hcl mk46
          have hrow5 : w5.heap[wd.heap.size]? = some (.cells L0 40 (0, 0)) := by rw [b5.block _ (by simp)]; exact heap_at _ _ _ rfl
          have hM0 : ModelIn wd.heap.size w5 wd.heap.size k (fun _ => 0) (fun _ => 0) (res n k vs') (k + 1) := ⟨⟨L0, hrow5, by rw [HL0.out]; simp, fun _ h1 h2 => by omega⟩, fun _ h1 h2 => by omega, fun _ h1 h2 => by omega, Nat.le_refl _, fun _ h1 h2 => by omega⟩
          have hM1 := hM0.push (gc := gm) (cpj := cm) (cur := cur) (Nat.le_refl _) hgm (by rw [res_leaf]; exact htk) (by rw [res_leaf]; exact ⟨hlc, hcm⟩) (by simp at hHg; omega)
          rw [res_leaf, hlk] at hM1
          rw [hlk]
          have b6 : Below wd.heap.size wd (w5.setCell ⟨wd.heap.size, k, none⟩ (.slice (some ⟨gm, 0, none⟩) (fall n k) cm)) := (((Below.refl _ wd).alloc (Nat.le_refl _) _).trans (b5.mono (by simp))).setCell (Nat.le_refl _) _
          have c5 : w5.cell? ⟨wd.heap.size, k, none⟩ = some (.slice none 0 0) := by rw [cell_of_row _ _ _ _ _ _ hrow5, HL0.out]; simp
          have f5 : w5.frozen? ⟨wd.heap.size, k, none⟩ = false := frozen_of_row _ _ _ _ _ hrow5
          clear hM0 hrow5 hgm htk hcs hHg b5
          go_wp2_with fail
          go_loopw [20] (fun s wq => ∃ (j : Nat) (mb cp : Nat → Nat), j ≤ k ∧ s = .int .i64 ((j : Int) - 1) ∧ ModelIn wd.heap.size wq wd.heap.size k mb cp (res n k vs') j ∧ Below wd.heap.size wd wq) (fun s _ => (intOf s + 1).toNat)
          case atStart => exact ⟨k, _, _, Nat.le_refl _, rfl, hM1, b6⟩
          case round =>
            obtain ⟨j, mb, cp, hj, rfl, hM2, b7⟩ := hrel
            clear hM1 b6 c5 f5
            by_cases hj0 : j = 0
            · subst hj0
              rw [show (((0 : Nat) : Int) - 1) = -1 from rfl]
              have hE3 := hE2.later b7 hE2.below.size
              have hdec := decide_any p hv dec val hE3.tree hE3.len hE3.proc (by omega) hdn
              have hlenR := res_length n k vs' hE2.len
              have hlo : ∀ g, (g = p ∨ ∃ i, i < k + 1 ∧ g = lb i) → w.heap.size ≤ g ∧ g < wd.heap.size := by
                intro g hg
                rcases hg with rfl | ⟨i, hi, rfl⟩
                · exact ⟨bp, lt_of_heap hE2.proc⟩
                · exact ⟨hE2.tree.bb i hi, lt_of_heap (hE2.tree.lev i hi)⟩
              have bE3 := hE3.below
              have HLR : Hid (∀ i, i ≤ k → (res n k vs' i).length = fall n i) := hlenR
              have HLO : Hid (∀ g, (g = p ∨ ∃ i, i < k + 1 ∧ g = lb i) → w.heap.size ≤ g ∧ g < wd.heap.size) := hlo
              clear hE2 hE3 hlenR hlo hlk hlbk hlc hcm w3 hz3 HL0
              go_wp2_with fail
              refine hdec.mono ?_
              rintro e w7 ⟨rfl, hT7, hp7, kb7⟩
              have hM7 : ModelIn wd.heap.size w7 wd.heap.size k mb cp (res n k vs') 0 := hM2.kept (fun g h1 h2 _ => kb7.block g h2 (fun hS => by have := (HLO.out g hS).2; omega))
              have b12 : Below w.heap.size w w7 := bE3.trans (kb7.below bE3.size (fun g hS => (HLO.out g hS).1))
              have hd7 := fun (W : World) (e : W.heap = w7.heap) => decision_any p n k t hv true ((res n k vs' 0).getD 0 0) W (by rw [e]; exact hp7)
              have hq7 : w7.cell? ⟨p, 2, none⟩ = some (.pointer (some ⟨t, 0, none⟩)) := by rw [cell_of_row _ _ _ _ _ _ hp7]; rfl
              have HD7 : Hid (∀ W : World, W.heap = w7.heap → Calls Yba.prog 14 #[.pointer (some ⟨p, 0, none⟩)] W fun e w' => e = .returned (.tuple #[.int .i64 ((res n k vs' 0).getD 0 0), .bool true]) ∧ ∃ q, w' = W.drewN q) := hd7
              clear hd7 hp7 kb7 hdec b7 bE3 hM2
              go_wp2_with fail
              go_loopw [25] (fun s wq => ∃ i q : Nat, i ≤ k + 1 ∧ s = .int .i64 i ∧ wq = w7.drewN q) (fun s _ => k + 1 - (intOf s).toNat)
              case atStart => exact ⟨0, 0, Nat.zero_le _, rfl, rfl⟩
              case round =>
                obtain ⟨i, q, hi, rfl, rfl⟩ := hrel
                by_cases hlt : i < k + 1
                · have hri := HLR.out i (by omega)
                  have hmc := hM7.reads.1 i (Nat.zero_le _) (by omega)
                  rw [hri] at hmc
                  have hf720 := fall_le n i (by omega) (by omega)
                  have hLv : ∀ W : World, W.heap = w7.heap → Calls Yba.prog 15 #[.pointer (some ⟨t, 0, none⟩), .int .i64 i] W fun e w' => e = .returned (.slice (some ⟨lb i, 0, none⟩) (fall n i) (fall n i)) ∧ w' = W := fun W e => by
                    have := level_any (hT7.same (w' := W) e) (Nat.le_refl _) (by omega) (i : Int) i rfl (by omega)
                    rw [hri] at this
                    exact this
                  have hEq : ∀ W : World, W.heap = w7.heap → Calls Yba.prog 19 #[.slice (some ⟨lb i, 0, none⟩) (fall n i) (fall n i), .slice (some ⟨mb i, 0, none⟩) (fall n i) (cp i)] W fun e w' => e = .returned (.bool true) ∧ ∃ q, w' = W.drewN q := fun W e =>
                    sliceEqual_any (lb i) (mb i) (fall n i) (fall n i) (cp i) (res n k vs' i) W hri (by omega)
                      (fun x hx => by
                        rw [Nat.zero_add]
                        exact (hT7.same (w' := W) e).cells.2.2.2.1 i (by omega) x (by rw [hri]; exact hx))
                      (fun x hx => by
                        rw [Nat.zero_add]
                        exact (hM7.kept (w' := W) (fun g _ _ _ => by rw [e])).reads.2 i (Nat.zero_le _) (by omega) x (by rw [hri]; exact hx))
                  have HLV : Hid (∀ W : World, W.heap = w7.heap → Calls Yba.prog 15 #[.pointer (some ⟨t, 0, none⟩), .int .i64 i] W fun e w' => e = .returned (.slice (some ⟨lb i, 0, none⟩) (fall n i) (fall n i)) ∧ w' = W) := hLv
                  have HEQ : Hid (∀ W : World, W.heap = w7.heap → Calls Yba.prog 19 #[.slice (some ⟨lb i, 0, none⟩) (fall n i) (fall n i), .slice (some ⟨mb i, 0, none⟩) (fall n i) (cp i)] W fun e w' => e = .returned (.bool true) ∧ ∃ q, w' = W.drewN q) := hEq
                  clear hLv hEq hri
                  have hqz : (w7.drewN q).cell? ⟨p, 2, none⟩ = some (.pointer (some ⟨t, 0, none⟩)) := hq7
                  have hmz : (w7.drewN q).cell? ⟨wd.heap.size, i, none⟩ = some (.slice (some ⟨mb i, 0, none⟩) (fall n i) (cp i)) := hmc
                  have hzh : (w7.drewN q).heap = w7.heap := rfl
                  obtain ⟨wz, hz⟩ : ∃ wz, wz = w7.drewN q := ⟨_, rfl⟩
                  rw [← hz] at hqz hmz hzh
                  rw [← hz]
                  have HZ : Hid (wz = w7.drewN q) := hz
                  have HZH : Hid (wz.heap = w7.heap) := hzh
                  clear hz hzh hmc
                  go_wp2_with fail
                  go_quiet ((first | (go_at_call 15; refine Calls.quiet_of_same (HLV.out _ ?_); exact HZH.out) | (go_at_call 19; refine Calls.quiet_of (HEQ.out _ ?_); exact HZH.out)))
                  go_wp2
                  go_roundw
                  case rel => exact ⟨i + 1, q + nq, by omega, by go_num, by rw [HZ.out, World.drewN_drewN]⟩
                  case measure => simp [intOf]; omega
                · go_wp2_with fail
                  refine (HD7.out (w7.drewN q) rfl).mono ?_
                  rintro e w8 ⟨rfl, q8, rfl⟩
                  have hr0 := HLR.out 0 (by omega)
                  have hmc := hM7.reads.1 0 (Nat.zero_le _) (by omega)
                  have hmv := hM7.reads.2 0 (Nat.zero_le _) (by omega) 0 (by rw [hr0]; simp [fall])
                  rw [hr0] at hmc
                  simp only [fall] at hmc
                  generalize (res n k vs' 0).getD 0 0 = v at *
                  go_wp2
                  go_ret
                  exact ⟨rfl, ⟨b12.os, b12.tape, b12.output, b12.size, b12.block⟩⟩
            · obtain ⟨l, rfl⟩ : ∃ l, j = l + 1 := ⟨j - 1, by omega⟩
              rw [show (((l + 1 : Nat) : Int) - 1) = (l : Int) from by omega]
              clear hj0
              have hR := res_length n k vs' hE2.len (l + 1) hj
              have hRl := res_length n k vs' hE2.len l (by omega)
              have hcM := hM2.reads.1 (l + 1) (Nat.le_refl _) hj
              have hcap := hM2.cap (l + 1) (Nat.le_refl _) hj
              have hlmv : wd.heap.size < wr.heap.size := by obtain ⟨L, hL, _⟩ := hM2.row; exact lt_of_heap hL
              rw [hR] at hcM hcap
              unfold maxLen at hcap
              have hfl1 := fall_le n (l + 1) (by omega) (by omega)
              have hfl2 := fall_le n l (by omega) (by omega)
              obtain ⟨wt, hwt⟩ : ∃ wt, wt = n - l := ⟨_, rfl⟩
              have hwt1 : 1 ≤ wt ∧ wt ≤ 6 := by omega
              have e1 : (n : Int) - (l : Int) = (wt : Int) := by omega
              have hfs : fall n (l + 1) = fall n l * wt := by rw [hwt]; rfl
              have hquo : (fall n (l + 1) : Int) / (wt : Int) = (fall n l : Int) := by
                rw [hfs, Int.natCast_mul, Int.mul_ediv_cancel _ (by omega)]
              have mk40 := fun W => make_small info2 Yba.underlying40 (by decide) rfl (fall n l : Int) (fall n l : Int) (fall n l) (fall n l) rfl rfl (Nat.le_refl _) (by omega) W
              obtain ⟨Z, hZ⟩ : ∃ Z, Z = (List.replicate (fall n l) (Value.int .i64 0)).toArray := ⟨_, rfl⟩
              rw [← hZ] at mk40
              have hZ2 : Z = ((rowR (res n k vs' l) 0).map (Value.int .i64)).toArray := by rw [hZ]; simp [rowR, hRl]
              have hM3 : ModelIn wd.heap.size (wr.alloc (.cells Z 2)) wd.heap.size k mb cp (res n k vs') (l + 1) := hM2.kept (fun g _ hg _ => heap_past _ _ _ hg)
              have hg3 : (wr.alloc (.cells Z 2)).heap[wr.heap.size]? = some (.cells ((rowR (res n k vs' l) 0).map (Value.int .i64)).toArray 2 (0, 0)) := by rw [← hZ2]; exact heap_at _ _ _ rfl
              have b8 : Below wd.heap.size wd (wr.alloc (.cells Z 2)) := b7.alloc (by omega) _
              have hmbl : ∀ i, l + 1 ≤ i → i ≤ k → mb i < wr.heap.size := fun i h1 h2 => by obtain ⟨c, hc, _⟩ := hM2.lev i h1 h2; exact lt_of_heap hc
              have HF : Hid (fall n (l + 1) = fall n l * wt) := hfs
              have HW : Hid (wt = n - l) := hwt
              obtain ⟨gc, hgc⟩ : ∃ gc, gc = wr.heap.size := ⟨_, rfl⟩
              clear hM2 hZ hZ2 b7 hfs hwt
              go_wp2_with fail
              rw [← hgc] at hmbl hg3 hlmv
              rw [← hgc]
              clear hgc
              go_loopw [24] (fun s wq => ∃ i : Nat, i ≤ fall n l ∧ s = .int .i64 i ∧ wq.heap[gc]? = some (.cells ((rowR (res n k vs' l) i).map (Value.int .i64)).toArray 2 (0, 0)) ∧ ModelIn wd.heap.size wq wd.heap.size k mb cp (res n k vs') (l + 1) ∧ Below wd.heap.size wd wq) (fun s _ => fall n l - (intOf s).toNat)
              case atStart => exact ⟨0, Nat.zero_le _, rfl, hg3, hM3, b8⟩
              case round =>
                obtain ⟨i3, hi3, rfl, hg4, hM4, b9⟩ := hrel
                clear hg3 hM3 b8 mk40 hcM hquo
                by_cases hlt3 : i3 < fall n l
                · have hcM4 := hM4.reads.1 (l + 1) (Nat.le_refl _) hj
                  rw [hR] at hcM4
                  obtain ⟨lo, hlo⟩ : ∃ lo, lo = i3 * wt := ⟨_, rfl⟩
                  have hle : lo + wt ≤ fall n (l + 1) := by
                    rw [HF.out, hlo]
                    have h1 : (i3 + 1) * wt ≤ fall n l * wt := Nat.mul_le_mul_right _ (by omega)
                    have h2 : (i3 + 1) * wt = i3 * wt + wt := by rw [Nat.add_mul, Nat.one_mul]
                    omega
                  have hle2 : i3 * wt + wt ≤ 100000 := by rw [← hlo]; omega
                  have hne : ¬ cp (l + 1) = lo := by omega
                  have hmaj : maj (((res n k vs' (l + 1)).drop lo).take wt) = (res n k vs' l).getD i3 0 := by
                    have hx : i3 < (res n k vs' l).length := by omega
                    rw [List.getD_eq_getElem?_getD, List.getElem?_eq_getElem hx, Option.getD_some]
                    simp only [res_step n k vs' l (by omega), resLevel, List.getElem_map, List.getElem_range]
                    rw [hlo, HW.out]
                  have hcells : ∀ x, x < wt → wr.cell? ⟨mb (l + 1), lo + x, none⟩ = some (.int .i64 ((((res n k vs' (l + 1)).drop lo).take wt).getD x 0)) := by
                    intro x hx
                    rw [hM4.reads.2 (l + 1) (Nat.le_refl _) hj (lo + x) (by omega)]
                    have h2 : x < wt := by omega
                    simp [List.getD, h2, List.getElem?_drop]
                  have hxl : (((res n k vs' (l + 1)).drop lo).take wt).length = wt := by rw [List.length_take, List.length_drop, hR]; omega
                  have hnv := naive_any (mb (l + 1)) lo wt (cp (l + 1) - lo) _ wr hxl (by omega) hcells
                  rw [hmaj] at hnv
                  have hX := rowR_set (res n k vs' l) i3 (by omega)
                  have hrl := rowR_length (res n k vs' l) i3 (by omega)
                  have hcg : ∃ old, wr.cell? ⟨gc, i3, none⟩ = some old := ⟨.int .i64 ((rowR (res n k vs' l) i3)[i3]'(by omega)), by
                    rw [cell_of_row _ _ _ _ _ _ hg4]
                    have h3 : i3 < (rowR (res n k vs' l) i3).length := by omega
                    simp [h3]⟩
                  obtain ⟨old, hcg⟩ := hcg
                  have hfg : wr.frozen? ⟨gc, i3, none⟩ = false := frozen_of_row _ _ _ _ _ hg4
                  generalize (res n k vs' l).getD i3 0 = v at hnv hX
                  have hg5 : (wr.setCell ⟨gc, i3, none⟩ (.int .i64 v)).heap[gc]? = some (.cells ((rowR (res n k vs' l) (i3 + 1)).map (Value.int .i64)).toArray 2 (0, 0)) := by
                    rw [heap_setCell_same _ _ _ _ _ _ hg4, ← hX]
                    simp [List.map_set]
                  have hM5 : ModelIn wd.heap.size (wr.setCell ⟨gc, i3, none⟩ (.int .i64 v)) wd.heap.size k mb cp (res n k vs') (l + 1) := hM4.kept (fun g _ hg hgs => Below.heap_setCell _ _ _ _ (by
                    show g ≠ gc
                    rcases hgs with e | ⟨x, h1, h2, e⟩
                    · omega
                    · have := hmbl x h1 h2; omega))
                  have b10 : Below wd.heap.size wd (wr.setCell ⟨gc, i3, none⟩ (.int .i64 v)) := b9.setCell (show wd.heap.size ≤ gc by omega) _
                  clear hX hrl hmaj hcells hxl hM4 b9 hg4
                  obtain ⟨C, hC⟩ : ∃ C, C = cp (l + 1) := ⟨_, rfl⟩
                  rw [← hC] at hcap hne hcM4 hnv
                  clear hC
                  have h9 := hcap.1
                  have h10 : C ≤ 9223372036854775807 := by omega
                  have hl6 : l ≤ 5 := by omega
                  have hi7 : i3 ≤ 720 := by omega
                  obtain ⟨m1, m2⟩ := wrap_mul i3 wt hle2
                  rw [← hlo] at m1 m2
                  clear hlo hle2
                  clear hcap hn hd b0 b1 e1 hlk hlbk hlc hcm hR hRl hmbl hE2 w3 hz3 w0 w1 w2 hlen3 hn6 hk1 hdn hd0 hd1 hk2 hfl hfl2 hlmv hi3 bp HF HW HL0
                  go_wp2_with (go_at_call 17; refine hnv.mono ?_; rintro e w9 ⟨rfl, q9, rfl⟩)
                  go_roundw
                  case rel => exact ⟨i3 + 1, by omega, by go_num, hg5, hM5.kept (fun _ _ _ _ => rfl), ⟨b10.os, b10.tape, b10.output, b10.size, b10.block⟩⟩
                  case measure => simp [intOf]; omega
                · obtain rfl : i3 = fall n l := by omega
                  have hfull : rowR (res n k vs' l) (fall n l) = res n k vs' l := by rw [← hRl]; exact rowR_full _
                  rw [hfull] at hg4
                  have hM6 := hM4.push (gc := gc) (cpj := fall n l) (j := l) (by omega) hg4 (by rw [List.take_of_length_le (by simp)]) (by rw [hRl]; exact ⟨Nat.le_refl _, by unfold maxLen; omega⟩) (by omega)
                  rw [hRl] at hM6
                  obtain ⟨L, hL, hLs, _⟩ := hM4.row
                  have hcl : ∃ old, wr.cell? ⟨wd.heap.size, l, none⟩ = some old := ⟨L[l]'(by omega), by rw [cell_of_row _ _ _ _ _ _ hL]; simp⟩
                  obtain ⟨old, hcl⟩ := hcl
                  have hfl : wr.frozen? ⟨wd.heap.size, l, none⟩ = false := frozen_of_row _ _ _ _ _ hL
                  have b11 : Below wd.heap.size wd (wr.setCell ⟨wd.heap.size, l, none⟩ (.slice (some ⟨gc, 0, none⟩) (fall n l) (fall n l))) := b9.setCell (Nat.le_refl _) _
                  clear hg4 hM4 b9 hL hfull
                  go_wp2_with fail
                  go_roundw
                  case rel => exact ⟨l, _, _, by omega, by go_num, hM6, b11⟩
                  case measure => simp [intOf]

theorem RowIn.bounds {k : IntKind} {w : World} {a : Option Addr} {len cap : Nat} {zs : List Int} (h : RowIn k w a len cap zs) : len ≤ maxLen ∧ ∀ n ∈ zs, (Lit.int k n).wf = true := by
  rcases h with ⟨rfl, rfl, rfl, rfl⟩ | ⟨x, rfl, hl, hm, hz, hcell, hwf⟩
  · exact ⟨Nat.zero_le _, fun n hn => by simp at hn⟩
  · exact ⟨Nat.le_trans hl hm, hwf⟩

theorem resolve_any (a0 a1 a2 : Int) (a3 : Option Addr) (len3 cap3 : Nat) (z3 : List Int) (w : World) (w0 : (Lit.int .u8 a0).wf = true) (w1 : (Lit.int .u8 a1).wf = true) (w2 : (Lit.int .i64 a2).wf = true) (w3 : RowIn .u8 w a3 len3 cap3 z3) :
    Calls Yba.prog 5 #[.int .u8 a0, .int .u8 a1, .int .i64 a2, .slice a3 len3 cap3] w fun e w' => e = .returned (.bool true) ∧ Below w.heap.size w w' :=
  resolve_walk a0 a1 a2 a3 len3 cap3 z3 w w0 w1 w2 w3 w3.bounds.1 w3.bounds.2

end Go.Proofs.Ybulkrzw
