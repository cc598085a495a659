import Derived.Test.YbulkscaDoorAdd
import Derived.Test.YbulkscaDoorPlain2
namespace Go.Proofs.YbulkscaDoor
open Go.RowKit
set_option linter.unusedVariables false

/-- A slice of steps that came in: two cells an element. -/
def StepsIn (w : World) (a : Option Addr) (len cap : Nat) (zs : List (Nat × Nat)) : Prop :=
  zs.length = len ∧ len ≤ 1024 ∧ (∀ p ∈ zs, p.1 < 256 ∧ p.2 < 256) ∧
  (0 < len → ∃ b off, a = some ⟨b, off, none⟩ ∧ b < w.heap.size ∧ ∀ i, i < len → w.cell? ⟨b, off + i * 2, none⟩ = some (.int .u8 ((zs.getD i (0, 0)).1 : Nat)) ∧ w.cell? ⟨b, off + i * 2 + 1, none⟩ = some (.int .u8 ((zs.getD i (0, 0)).2 : Nat)))

def hmC (l : List (Nat × Nat)) : Array Value := #[.int .u8 (modeOf 0 l : Nat), .int .u8 (modeOf 1 l : Nat), .int .u8 (modeOf 2 l : Nat), .int .u8 (modeOf 3 l : Nat)]
def seenC (l : List (Nat × Nat)) : Array Value := #[.bool (hasOf 0 l), .bool (hasOf 1 l), .bool (hasOf 2 l), .bool (hasOf 3 l)]
def osC (ow : Nat → Nat) : Array Value := #[ptr (ow 0), ptr (ow 1), ptr (ow 2), ptr (ow 3)]

/-- What the script's run leaves. -/
def Ran (w : World) (nm : ByteArray) (wt : Bool) (en : Ending) (w' : World) : Prop :=
  ∃ e mp ow ft l, en = .returned (.tuple #[ptr e, .agg (osC ow), .agg (hmC l), .agg (seenC l)]) ∧ LockIn w.heap.size w' e mp ow nm ft l ∧ (keysOf l).Nodup ∧ ft.isSome = wt ∧ Below w.heap.size w w'

theorem heap5 (w : World) (A B C D E : Obj) : (((((w.alloc A).alloc B).alloc C).alloc D).alloc E).heap[w.heap.size]? = some A ∧ (((((w.alloc A).alloc B).alloc C).alloc D).alloc E).heap[w.heap.size + 1]? = some B ∧
    (((((w.alloc A).alloc B).alloc C).alloc D).alloc E).heap[w.heap.size + 1 + 1]? = some C ∧ (((((w.alloc A).alloc B).alloc C).alloc D).alloc E).heap[w.heap.size + 1 + 1 + 1]? = some D ∧
    (((((w.alloc A).alloc B).alloc C).alloc D).alloc E).heap[w.heap.size + 1 + 1 + 1 + 1]? = some E ∧ (((((w.alloc A).alloc B).alloc C).alloc D).alloc E).heap.size = w.heap.size + 5 ∧ Below w.heap.size w (((((w.alloc A).alloc B).alloc C).alloc D).alloc E) := by
  refine ⟨?_, ?_, ?_, ?_, ?_, by simp, ?_⟩
  · rw [heap_past _ _ _ (by simp <;> omega), heap_past _ _ _ (by simp <;> omega), heap_past _ _ _ (by simp <;> omega), heap_past _ _ _ (by simp <;> omega), heap_at _ _ _ rfl]
  · rw [heap_past _ _ _ (by simp <;> omega), heap_past _ _ _ (by simp <;> omega), heap_past _ _ _ (by simp <;> omega), heap_at _ _ _ (by simp)]
  · rw [heap_past _ _ _ (by simp <;> omega), heap_past _ _ _ (by simp <;> omega), heap_at _ _ _ (by simp)]
  · rw [heap_past _ _ _ (by simp <;> omega), heap_at _ _ _ (by simp)]
  · rw [heap_at _ _ _ (by simp)]
  · exact (((((Below.refl _ w).alloc (Nat.le_refl _) _).alloc (by simp) _).alloc (by simp <;> omega) _).alloc (by simp <;> omega) _).alloc (by simp <;> omega) _

/-- The blocks that the run lays first. -/
structure Laid0 (w wr : World) (nm : ByteArray) (ft : Option Addr) : Prop where
  r0 : wr.heap[w.heap.size]? = some (.cells #[.pointer none, .pointer none, .pointer none, .pointer none] 25 (0, 0))
  r1 : wr.heap[w.heap.size + 1]? = some (.cells #[.int .u8 0, .int .u8 0, .int .u8 0, .int .u8 0] 27 (0, 0))
  r2 : wr.heap[w.heap.size + 1 + 1]? = some (.cells #[.bool false, .bool false, .bool false, .bool false] 28 (0, 0))
  mp : wr.heap[w.heap.size + 1 + 1 + 1]? = some (.map #[] 0)
  ent : wr.heap[w.heap.size + 1 + 1 + 1 + 1]? = some (.cells (entCells nm (w.heap.size + 1 + 1 + 1) (fun _ => 0) ft 0) 39 (0, 0))
  size : w.heap.size + 5 ≤ wr.heap.size
  below : Below w.heap.size w wr

theorem Laid0.wait {w W : World} {nm : ByteArray} (h : Laid0 w W nm none) (o : Obj) (a : Addr) :
    Laid0 w (((W.setCell ⟨w.heap.size + 1 + 1 + 1 + 1, 6, none⟩ (.pointer (some a))).setCell ⟨w.heap.size + 1 + 1 + 1 + 1, 7, none⟩ (.pointer (some a))).alloc o) nm (some a) := by
  have hs := h.size
  have t : ∀ g, g < w.heap.size + 5 → g ≠ w.heap.size + 1 + 1 + 1 + 1 → (((W.setCell ⟨w.heap.size + 1 + 1 + 1 + 1, 6, none⟩ (.pointer (some a))).setCell ⟨w.heap.size + 1 + 1 + 1 + 1, 7, none⟩ (.pointer (some a))).alloc o).heap[g]? = W.heap[g]? := by
    intro g hg hne
    rw [heap_past _ _ _ (by simp; omega), Below.heap_setCell _ _ _ _ hne, Below.heap_setCell _ _ _ _ hne]
  refine ⟨?_, ?_, ?_, ?_, ?_, by simp; omega, ?_⟩
  · rw [t _ (by omega) (by omega)]; exact h.r0
  · rw [t _ (by omega) (by omega)]; exact h.r1
  · rw [t _ (by omega) (by omega)]; exact h.r2
  · rw [t _ (by omega) (by omega)]; exact h.mp
  · rw [heap_past _ _ _ (by simp; omega), heap_setCell_same _ _ _ _ _ _ (heap_setCell_same _ _ _ _ _ _ h.ent)]; rfl
  · exact ((h.below.setCell (show w.heap.size ≤ w.heap.size + 1 + 1 + 1 + 1 by omega) _).setCell (show w.heap.size ≤ w.heap.size + 1 + 1 + 1 + 1 by omega) _).alloc (by simp; omega) _

def osPart (ow : Nat → Nat) (i : Nat) : Array Value := #[if 0 < i then ptr (ow 0) else .pointer none, if 1 < i then ptr (ow 1) else .pointer none, if 2 < i then ptr (ow 2) else .pointer none, if 3 < i then ptr (ow 3) else .pointer none]

theorem osPart_set (ow : Nat → Nat) (i g : Nat) (hi : i < 4) : (osPart ow i).setIfInBounds i (ptr g) = osPart (fun j => if j = i then g else ow j) (i + 1) := by
  have : i = 0 ∨ i = 1 ∨ i = 2 ∨ i = 3 := by omega
  rcases this with rfl | rfl | rfl | rfl <;> simp [osPart]

/-- The owners laid so far: i of them, their pointers in the array of block ob; nothing else has turned. -/
structure Owners (w0 wr : World) (ob : Nat) (ow : Nat → Nat) (i : Nat) : Prop where
  arr : wr.heap[ob]? = some (.cells (osPart ow i) 25 (0, 0))
  free : ∀ j, j < i → wr.heap[ow j]? = some (.cells freeOwner 45 (0, 0))
  inj : ∀ j k, j < i → k < i → ow j = ow k → j = k
  new : ∀ j, j < i → ob < ow j
  old : ∀ g, g < ob → wr.heap[g]? = w0.heap[g]?
  size : ob < wr.heap.size
  out : wr.os = w0.os ∧ wr.tape = w0.tape ∧ wr.output = w0.output

theorem Owners.push {w0 wr : World} {ob : Nat} {ow : Nat → Nat} {i : Nat} (h : Owners w0 wr ob ow i) (hi : i < 4) :
    Owners w0 ((wr.setCell ⟨ob, i, none⟩ (ptr wr.heap.size)).alloc (.cells freeOwner 45)) ob (fun j => if j = i then wr.heap.size else ow j) (i + 1) := by
  have hs := h.size
  refine ⟨?_, ?_, ?_, ?_, ?_, by simp; omega, h.out⟩
  · rw [heap_past _ _ _ (by simpa using hs), heap_setCell_same _ _ _ _ _ _ h.arr, osPart_set _ _ _ hi]
  · intro j hj
    by_cases e : j = i
    · simp only [if_pos e]; exact heap_at _ _ _ (by simp)
    · simp only [if_neg e]
      have h1 := h.free j (by omega)
      have h2 := h.new j (by omega)
      rw [heap_past _ _ _ (by simpa using lt_of_heap h1), Below.heap_setCell _ _ _ _ (show ow j ≠ ob by omega)]; exact h1
  · intro j k hj hk he
    by_cases e1 : j = i <;> by_cases e2 : k = i
    · omega
    · simp only [if_pos e1, if_neg e2] at he
      have := lt_of_heap (h.free k (by omega))
      omega
    · simp only [if_neg e1, if_pos e2] at he
      have := lt_of_heap (h.free j (by omega))
      omega
    · simp only [if_neg e1, if_neg e2] at he
      exact h.inj j k (by omega) (by omega) he
  · intro j hj
    by_cases e : j = i
    · simp only [if_pos e]; exact hs
    · simp only [if_neg e]; exact h.new j (by omega)
  · intro g hg
    rw [heap_past _ _ _ (by simp; omega), Below.heap_setCell _ _ _ _ (show g ≠ ob by omega)]; exact h.old g hg

theorem hmC_set (l : List (Nat × Nat)) (k m : Nat) (hk : k < 4) : (hmC l).setIfInBounds k (.int .u8 (modeOf k l ||| m : Nat)) = hmC (addL l k m) := by
  have : k = 0 ∨ k = 1 ∨ k = 2 ∨ k = 3 := by omega
  rcases this with rfl | rfl | rfl | rfl <;> simp [hmC, modeOf_add]
theorem seenC_set (l : List (Nat × Nat)) (k m : Nat) (hk : k < 4) : (seenC l).setIfInBounds k (.bool true) = seenC (addL l k m) := by
  have : k = 0 ∨ k = 1 ∨ k = 2 ∨ k = 3 := by omega
  rcases this with rfl | rfl | rfl | rfl <;> simp [seenC, hasOf_add]
theorem hmC_at (l : List (Nat × Nat)) (k : Nat) (hk : k < 4) : (hmC l)[k]? = some (.int .u8 (modeOf k l : Nat)) := by
  have : k = 0 ∨ k = 1 ∨ k = 2 ∨ k = 3 := by omega
  rcases this with rfl | rfl | rfl | rfl <;> rfl
theorem seenC_at (l : List (Nat × Nat)) (k : Nat) (hk : k < 4) : (seenC l)[k]? = some (.bool (hasOf k l)) := by
  have : k = 0 ∨ k = 1 ∨ k = 2 ∨ k = 3 := by omega
  rcases this with rfl | rfl | rfl | rfl <;> rfl
theorem osC_at (ow : Nat → Nat) (k : Nat) (hk : k < 4) : (osC ow)[k]? = some (ptr (ow k)) := by
  have : k = 0 ∨ k = 1 ∨ k = 2 ∨ k = 3 := by omega
  rcases this with rfl | rfl | rfl | rfl <;> rfl

/-- What the loop over the steps keeps. B: the heap's size when the run began; ob, hb, sb: the three arrays. -/
structure Steps (w wq : World) (ob hb sb : Nat) (ow : Nat → Nat) (nm : ByteArray) (ft : Option Addr) (l : List (Nat × Nat)) : Prop where
  lock : LockIn w.heap.size wq (w.heap.size + 1 + 1 + 1 + 1) (w.heap.size + 1 + 1 + 1) ow nm ft l
  nod : (keysOf l).Nodup
  hm : wq.heap[hb]? = some (.cells (hmC l) 27 (0, 0))
  sn : wq.heap[sb]? = some (.cells (seenC l) 28 (0, 0))
  os : wq.heap[ob]? = some (.cells (osC ow) 25 (0, 0))
  r0 : wq.heap[w.heap.size]? = some (.cells #[.pointer none, .pointer none, .pointer none, .pointer none] 25 (0, 0))
  r1 : wq.heap[w.heap.size + 1]? = some (.cells #[.int .u8 0, .int .u8 0, .int .u8 0, .int .u8 0] 27 (0, 0))
  r2 : wq.heap[w.heap.size + 1 + 1]? = some (.cells #[.bool false, .bool false, .bool false, .bool false] 28 (0, 0))
  below : Below w.heap.size w wq
  far : w.heap.size + 5 ≤ ob ∧ ob < hb ∧ hb < sb

theorem Steps.added {w X w2 : World} {ob hb sb st : Nat} {ow : Nat → Nat} {nm : ByteArray} {ft : Option Addr} {l : List (Nat × Nat)} {k m : Nat} {cs : Array Value} (h : Steps w X ob hb sb ow nm ft l) (hst : X.heap[st]? = some (.cells cs 52 (0, 0))) (hk : k < 4)
    (g2 : LockIn w.heap.size w2 (w.heap.size + 1 + 1 + 1 + 1) (w.heap.size + 1 + 1 + 1) ow nm ft (addL l k m)) (g3 : X.heap.size ≤ w2.heap.size) (g4 : w2.os = X.os) (g5 : w2.tape = X.tape) (g6 : w2.output = X.output)
    (g7 : ∀ g, g < X.heap.size → g ≠ w.heap.size + 1 + 1 + 1 + 1 → g ≠ w.heap.size + 1 + 1 + 1 → (∀ j, j < 4 → g ≠ ow j) → w2.heap[g]? = X.heap[g]?) :
    w2.heap[hb]? = some (.cells (hmC l) 27 (0, 0)) ∧ w2.heap[sb]? = some (.cells (seenC l) 28 (0, 0)) ∧ w2.heap[st]? = some (.cells cs 52 (0, 0)) ∧
    ∀ W : World, W.heap = ((w2.setCell ⟨hb, k, none⟩ (.int .u8 (modeOf k l ||| m : Nat))).setCell ⟨sb, k, none⟩ (.bool true)).heap → W.os = w2.os → W.tape = w2.tape → W.output = w2.output → Steps w W ob hb sb ow nm ft (addL l k m) := by
  have hf := h.far
  have ne : ∀ (g : Nat) (c : Array Value) (t : TypeId), X.heap[g]? = some (.cells c t (0, 0)) → t ≠ 45 → ∀ j, j < 4 → g ≠ ow j := by
    intro g c t h1 ht j hj e1
    obtain ⟨c', h2⟩ := h.lock.block j hj
    rw [← e1, h1] at h2
    simp at h2
    exact ht h2.2
  have nee : ∀ (g : Nat) (c : Array Value) (t : TypeId), X.heap[g]? = some (.cells c t (0, 0)) → t ≠ 39 → g ≠ w.heap.size + 1 + 1 + 1 + 1 := by
    intro g c t h1 ht e1
    have h2 := h.lock.ent
    rw [← e1, h1] at h2
    simp at h2
    exact ht h2.2
  have nem : ∀ (g : Nat) (c : Array Value) (t : TypeId), X.heap[g]? = some (.cells c t (0, 0)) → g ≠ w.heap.size + 1 + 1 + 1 := by
    intro g c t h1 e1
    obtain ⟨es, cl, h2, _⟩ := h.lock.map
    rw [← e1, h1] at h2
    cases h2
  have tt : ∀ (g : Nat) (c : Array Value) (t : TypeId), X.heap[g]? = some (.cells c t (0, 0)) → t ≠ 39 → t ≠ 45 → w2.heap[g]? = some (.cells c t (0, 0)) := fun g c t h1 h2 h3 => by
    rw [g7 g (lt_of_heap h1) (nee g c t h1 h2) (nem g c t h1) (ne g c t h1 h3)]; exact h1
  have a1 := tt _ _ _ h.hm (by decide) (by decide)
  have a2 := tt _ _ _ h.sn (by decide) (by decide)
  have a3 := tt _ _ _ hst (by decide) (by decide)
  have a4 := tt _ _ _ h.os (by decide) (by decide)
  have a5 := tt _ _ _ h.r0 (by decide) (by decide)
  have a6 := tt _ _ _ h.r1 (by decide) (by decide)
  have a7 := tt _ _ _ h.r2 (by decide) (by decide)
  refine ⟨a1, a2, a3, ?_⟩
  intro W e1 e2 e3 e4
  have tw : ∀ g, g ≠ hb → g ≠ sb → W.heap[g]? = w2.heap[g]? := fun g n1 n2 => by rw [e1, Below.heap_setCell _ _ _ _ n2, Below.heap_setCell _ _ _ _ n1]
  have nh : ∀ (g : Nat) (c : Array Value) (t : TypeId), w2.heap[g]? = some (.cells c t (0, 0)) → t ≠ 27 → g ≠ hb := by
    intro g c t h1 ht e5
    rw [e5, a1] at h1
    simp at h1
    exact ht h1.2.symm
  have nsb : ∀ (g : Nat) (c : Array Value) (t : TypeId), w2.heap[g]? = some (.cells c t (0, 0)) → t ≠ 28 → g ≠ sb := by
    intro g c t h1 ht e5
    rw [e5, a2] at h1
    simp at h1
    exact ht h1.2.symm
  have tc : ∀ (g : Nat) (c : Array Value) (t : TypeId), w2.heap[g]? = some (.cells c t (0, 0)) → t ≠ 27 → t ≠ 28 → W.heap[g]? = some (.cells c t (0, 0)) := fun g c t h1 h2 h3 => by
    rw [tw g (nh g c t h1 h2) (nsb g c t h1 h3)]; exact h1
  obtain ⟨p1, ⟨es, cl, p2, p3⟩, p4, p5, p6, p7, p8, p9, p10⟩ := g2
  refine ⟨⟨tc _ _ _ p1 (by decide) (by decide), ⟨es, cl, by rw [tw _ (by omega) (by omega)]; exact p2, p3⟩, fun j hj hh => ?_, fun j hj hh => tc _ _ _ (p5 j hj hh) (by decide) (by decide), p6, p7, p8, p9, p10⟩, nodup_add l k m h.nod, ?_, ?_, tc _ _ _ a4 (by decide) (by decide), tc _ _ _ a5 (by decide) (by decide), ?_, ?_, ?_, hf⟩
  · obtain ⟨hb', hc', q1, q2, q3, q4⟩ := p4 j hj hh
    exact ⟨hb', hc', tc _ _ _ q1 (by decide) (by decide), tc _ _ _ q2 (by decide) (by decide), q3, q4⟩
  · rw [e1, Below.heap_setCell _ _ _ _ (show hb ≠ sb by omega), heap_setCell_same _ _ _ _ _ _ a1, hmC_set l k m hk]
  · rw [e1, heap_setCell_same _ _ _ _ _ _ (by rw [Below.heap_setCell _ _ _ _ (show sb ≠ hb by omega)]; exact a2), seenC_set l k m hk]
  · rw [tw _ (by omega) (by omega)]; exact a6
  · rw [tw _ (by omega) (by omega)]; exact a7
  · have hb1 := h.below
    refine ⟨e2.trans (g4.trans hb1.os), e3.trans (g5.trans hb1.tape), e4.trans (g6.trans hb1.output), ?_, ?_⟩
    · rw [e1]; have := hb1.size; simp; omega
    · intro g hg
      have h9 := hb1.size
      rw [tw g (by omega) (by omega), g7 g (by omega) (by omega) (by omega) (fun j hj => by have := h.lock.bo j hj; omega)]
      exact hb1.block g hg

/-- The steps' last world, with the three results' blocks turned, is the run's. -/
theorem Steps.done {w wq W : World} {ob hb sb : Nat} {ow : Nat → Nat} {nm : ByteArray} {ft : Option Addr} {l : List (Nat × Nat)} (h : Steps w wq ob hb sb ow nm ft l)
    (tw : ∀ g, g ≠ w.heap.size → g ≠ w.heap.size + 1 → g ≠ w.heap.size + 1 + 1 → W.heap[g]? = wq.heap[g]?) (hbl : Below w.heap.size w W) :
    LockIn w.heap.size W (w.heap.size + 1 + 1 + 1 + 1) (w.heap.size + 1 + 1 + 1) ow nm ft l := by
  have n0 : ∀ (g : Nat) (c : Array Value) (t : TypeId), wq.heap[g]? = some (.cells c t (0, 0)) → t ≠ 25 → t ≠ 27 → t ≠ 28 → W.heap[g]? = some (.cells c t (0, 0)) := by
    intro g c t h1 t1 t2 t3
    rw [tw g _ _ _]; exact h1
    · intro e; rw [e, h.r0] at h1; simp at h1; exact t1 h1.2.symm
    · intro e; rw [e, h.r1] at h1; simp at h1; exact t2 h1.2.symm
    · intro e; rw [e, h.r2] at h1; simp at h1; exact t3 h1.2.symm
  obtain ⟨p1, ⟨es, cl, p2, p3⟩, p4, p5, p6, p7, p8, p9, p10⟩ := h.lock
  refine ⟨n0 _ _ _ p1 (by decide) (by decide) (by decide), ⟨es, cl, by rw [tw _ (by omega) (by omega) (by omega)]; exact p2, p3⟩, fun j hj hh => ?_, fun j hj hh => n0 _ _ _ (p5 j hj hh) (by decide) (by decide) (by decide), p6, p7, p8, p9, p10⟩
  obtain ⟨hb', hc', q1, q2, q3, q4⟩ := p4 j hj hh
  exact ⟨hb', hc', n0 _ _ _ q1 (by decide) (by decide) (by decide), n0 _ _ _ q2 (by decide) (by decide) (by decide), q3, q4⟩

set_option maxHeartbeats 2000000 in
set_option maxRecDepth 100000 in
theorem run_any (nm : ByteArray) (wt : Bool) (a : Option Addr) (len cap : Nat) (zs : List (Nat × Nat)) (w : World) (hnm : nm.size ≤ 1048576) (hz : StepsIn w a len cap zs) (tg : TypeId) (fr : Nat × Nat) (hG : w.heap[0]? = some (.cells modesC tg fr)) :
    Calls Ybad.prog 5 #[.string nm, .bool wt, .slice a len cap] w (Ran w nm wt) := by
  have hmm := @run_makeMap Ybad.prog
  go_enter Ybad.func5, Ybad.ntmps5
  go_upto_if 23 with fail
  obtain ⟨h0, h1, h2, h3, h4, h5, h6⟩ := heap5 w (.cells #[.pointer none, .pointer none, .pointer none, .pointer none] 25) (.cells #[.int .u8 0, .int .u8 0, .int .u8 0, .int .u8 0] 27) (.cells #[.bool false, .bool false, .bool false, .bool false] 28) (.map #[] 0) (.cells #[.string nm, .map (some (w.heap.size + 1 + 1 + 1)), .int .i64 0, .int .i64 0, .int .i64 0, .int .i64 0, .pointer none, .pointer none, .int .i64 0, .int .u64 0, .int .u16 0] 39)
  generalize (((((w.alloc (.cells #[.pointer none, .pointer none, .pointer none, .pointer none] 25)).alloc (.cells #[.int .u8 0, .int .u8 0, .int .u8 0, .int .u8 0] 27)).alloc (.cells #[.bool false, .bool false, .bool false, .bool false] 28)).alloc (.map #[] 0)).alloc (.cells #[.string nm, .map (some (w.heap.size + 1 + 1 + 1)), .int .i64 0, .int .i64 0, .int .i64 0, .int .i64 0, .pointer none, .pointer none, .int .i64 0, .int .u64 0, .int .u16 0] 39)) = W at *
  have HH : Hid (Laid0 w W nm none) := ⟨h0, h1, h2, h3, h4, by omega, h6⟩
  have e6 : W.cell? ⟨w.heap.size + 1 + 1 + 1 + 1, 6, none⟩ = some (.pointer none) := by rw [cell_of_row _ _ _ _ _ _ h4]; rfl
  have e7 : W.cell? ⟨w.heap.size + 1 + 1 + 1 + 1, 7, none⟩ = some (.pointer none) := by rw [cell_of_row _ _ _ _ _ _ h4]; rfl
  have f6 : W.frozen? ⟨w.heap.size + 1 + 1 + 1 + 1, 6, none⟩ = false := frozen_of_row _ _ _ _ _ h4
  have f7 : W.frozen? ⟨w.heap.size + 1 + 1 + 1 + 1, 7, none⟩ = false := frozen_of_row _ _ _ _ _ h4
  have hWz : w.heap.size + 1 + 1 + 1 + 1 < W.heap.size := by omega
  clear h0 h1 h2 h3 h4 h5 h6
  go_cut [11] (fun _ wr => ∃ ft : Option Addr, ft.isSome = wt ∧ Laid0 w wr nm ft)
  case first =>
    cases wt with
    | false =>
      go_wp2_with fail
      go_meet
      case rel => exact ⟨none, rfl, HH.out⟩
    | true =>
      go_wp2_with fail
      go_meet
      case rel => exact ⟨_, rfl, HH.out.wait _ _⟩
  case rest =>
    obtain ⟨ft, hft, hL⟩ := hcut
    obtain ⟨wb, hwb⟩ : ∃ wb, wb = wc := ⟨_, rfl⟩
    subst hwb
    clear e6 e7 f6 f7 hWz HH
    go_wp2_with fail
    go_loopw [13] (fun s wr => ∃ (i : Nat) (ow : Nat → Nat), i ≤ 4 ∧ s = .int .i64 i ∧ Owners wb wr wb.heap.size ow i) (fun s _ => 4 - (intOf s).toNat)
    case atStart => exact ⟨0, fun _ => 0, Nat.zero_le _, rfl, ⟨heap_at _ _ _ rfl, fun j hj => by omega, fun j k hj => by omega, fun j hj => by omega, fun g hg => heap_past _ _ _ hg, by simp, rfl, rfl, rfl⟩⟩
    case round =>
      obtain ⟨i, ow, hi4, rfl, hO⟩ := hrel
      by_cases hlt : i < 4
      · have hp := hO.push hlt
        have hs := hO.size
        have oc : ∃ v, wr.cell? ⟨wb.heap.size, i, none⟩ = some v := ⟨(osPart ow i)[i]'(by simpa [osPart] using hlt), by rw [cell_of_row _ _ _ _ _ _ hO.arr]; simp⟩
        obtain ⟨v, oc⟩ := oc
        have of : wr.frozen? ⟨wb.heap.size, i, none⟩ = false := frozen_of_row _ _ _ _ _ hO.arr
        unfold freeOwner ptr at hp
        go_wp2_with fail
        go_roundw
        case rel => exact ⟨i + 1, _, by omega, by go_num, hp⟩
        case measure => simp [intOf]; omega
      · obtain rfl : i = 4 := by omega
        rw [show (((4 : Nat)) : Int) = (4 : Int) from rfl]
        have hs0 := hO.size
        have hLs := hL.size
        have hS0 : Steps w ((wr.alloc (.cells #[.int .u8 0, .int .u8 0, .int .u8 0, .int .u8 0] 27)).alloc (.cells #[.bool false, .bool false, .bool false, .bool false] 28)) wb.heap.size wr.heap.size (wr.heap.size + 1) ow nm ft [] := by
          have t : ∀ g, g < wr.heap.size → ((wr.alloc (.cells #[.int .u8 0, .int .u8 0, .int .u8 0, .int .u8 0] 27)).alloc (.cells #[.bool false, .bool false, .bool false, .bool false] 28)).heap[g]? = wr.heap[g]? := fun g hg => by
            rw [heap_past _ _ _ (by simp; omega), heap_past _ _ _ hg]
          have t2 : ∀ g, g < wb.heap.size → ((wr.alloc (.cells #[.int .u8 0, .int .u8 0, .int .u8 0, .int .u8 0] 27)).alloc (.cells #[.bool false, .bool false, .bool false, .bool false] 28)).heap[g]? = wb.heap[g]? := fun g hg => by
            rw [t g (by omega)]; exact hO.old g hg
          refine ⟨⟨?_, ⟨#[], 0, ?_, rfl⟩, fun k hk hh => by simp [hasOf, findAt] at hh, fun k hk _ => ?_, fun j k hj hk => hO.inj j k hj hk, fun p hp => by simp at hp, by omega, by omega, fun k hk => by have := hO.new k hk; omega⟩, by simp [keysOf], ?_, ?_, ?_, ?_, ?_, ?_, ?_, by omega⟩
          · rw [t2 _ (by omega)]; exact hL.ent
          · rw [t2 _ (by omega)]; exact hL.mp
          · rw [t _ (lt_of_heap (hO.free k hk))]; exact hO.free k hk
          · rw [heap_past _ _ _ (by simp)]; exact heap_at _ _ _ rfl
          · exact heap_at _ _ _ (by simp)
          · rw [t _ hs0]; exact hO.arr
          · rw [t2 _ (by omega)]; exact hL.r0
          · rw [t2 _ (by omega)]; exact hL.r1
          · rw [t2 _ (by omega)]; exact hL.r2
          · have h7 := hL.below
            exact ⟨hO.out.1.trans h7.os, hO.out.2.1.trans h7.tape, hO.out.2.2.trans h7.output, by have := h7.size; simp; omega, fun g hg => by rw [t2 g (by omega)]; exact h7.block g hg⟩
        generalize hob : wb.heap.size = ob at *
        clear hob
        generalize hhb : wr.heap.size = hb at *
        obtain ⟨hzl, hz24, hzs, hzc⟩ := hz
        have HZS : Hid (∀ p ∈ zs, p.1 < 256 ∧ p.2 < 256) := hzs
        have HZC : Hid (0 < len → ∃ b off, a = some ⟨b, off, none⟩ ∧ b < w.heap.size ∧ ∀ i, i < len → w.cell? ⟨b, off + i * 2, none⟩ = some (.int .u8 ((zs.getD i (0, 0)).1 : Nat)) ∧ w.cell? ⟨b, off + i * 2 + 1, none⟩ = some (.int .u8 ((zs.getD i (0, 0)).2 : Nat))) := hzc
        clear hzs hzc
        go_wp2_with fail
        go_loopw [46] (fun s wq => ∃ (i : Nat) (l : List (Nat × Nat)), i ≤ len ∧ s = .int .i64 i ∧ Steps w wq ob hb (hb + 1) ow nm ft l) (fun s _ => len - (intOf s).toNat)
        case atStart => exact ⟨0, [], Nat.zero_le _, rfl, hS0⟩
        case round =>
          obtain ⟨i, l, hi, rfl, hS⟩ := hrel
          clear hS0 hO hs0 hhb
          by_cases hlt2 : i < len
          · obtain ⟨b, off, rfl, hbz, hcz⟩ := HZC.out (by omega)
            have hp2 := HZS.out (zs.getD i (0, 0)) (by
              rw [List.getD_eq_getElem?_getD, List.getElem?_eq_getElem (by omega)]
              simp)
            obtain ⟨c1, c2⟩ := hcz i hlt2
            obtain ⟨who, mode, hwm⟩ : ∃ who mode, zs.getD i (0, 0) = (who, mode) := ⟨_, _, rfl⟩
            rw [hwm] at hp2 c1 c2
            simp only at hp2 c1 c2
            have d1 := (hS.below.cell (p := ⟨b, off + i * 2, none⟩) hbz).trans c1
            have d2 := (hS.below.cell (p := ⟨b, off + i * 2 + 1, none⟩) hbz).trans c2
            obtain ⟨k, hk⟩ : ∃ k : Nat, (who : Int) % 4 = (k : Int) := ⟨who % 4, by omega⟩
            have hk4 : k < 4 := by omega
            clear hcz hwm c1 c2
            go_upto_region 17 with fail
            obtain ⟨X, hX⟩ : ∃ X, X = wr.alloc (.cells #[.int .u8 who, .int .u8 mode] 52) := ⟨_, rfl⟩
            rw [← hX]
            have hXs : X.heap.size = wr.heap.size + 1 := by rw [hX]; simp
            have tX : ∀ g, g < wr.heap.size → X.heap[g]? = wr.heap[g]? := fun g hg => by rw [hX]; exact heap_past _ _ _ hg
            have hSX : Steps w X ob hb (hb + 1) ow nm ft l := by
              obtain ⟨q1, q2, q3, q4, q5, q6, q7, q8, q9, q10⟩ := hS
              obtain ⟨p1, ⟨es, cl, p2, p3⟩, p4, p5, p6, p7, p8, p9, p10⟩ := q1
              refine ⟨⟨by rw [tX _ (lt_of_heap p1)]; exact p1, ⟨es, cl, by rw [tX _ (lt_of_heap p2)]; exact p2, p3⟩, fun j hj hh => ?_, fun j hj hh => ?_, p6, p7, p8, p9, p10⟩, q2, by rw [tX _ (lt_of_heap q3)]; exact q3, by rw [tX _ (lt_of_heap q4)]; exact q4, by rw [tX _ (lt_of_heap q5)]; exact q5, by rw [tX _ (lt_of_heap q6)]; exact q6, by rw [tX _ (lt_of_heap q7)]; exact q7, by rw [tX _ (lt_of_heap q8)]; exact q8, by rw [hX]; exact q9.alloc q9.size _, q10⟩
              · obtain ⟨hb', hc', g1, g2, g3, g4⟩ := p4 j hj hh
                exact ⟨hb', hc', by rw [tX _ (lt_of_heap g1)]; exact g1, by rw [tX _ (lt_of_heap g2)]; exact g2, g3, g4⟩
              · have g1 := p5 j hj hh
                rw [tX _ (lt_of_heap g1)]; exact g1
            have hXb : X.heap[wr.heap.size]? = some (.cells #[.int .u8 who, .int .u8 mode] 52 (0, 0)) := by rw [hX]; exact heap_at _ _ _ rfl
            have hB0 : 0 < w.heap.size := lt_of_heap hG
            have hXG : X.heap[0]? = some (.cells modesC tg fr) := by rw [hSX.below.block 0 hB0]; exact hG
            have hlen4 := length_le l hSX.nod (fun p hp => (hSX.lock.keys p hp).1)
            have HADD : Hid (∀ W : World, W.heap = X.heap → W.os = X.os → W.tape = X.tape → W.output = X.output → Calls Ybad.prog 7 #[.pointer (some ⟨w.heap.size + 1 + 1 + 1 + 1, 0, none⟩), .pointer (some ⟨ow k, 0, none⟩), .int .u8 mode] W (Added w.heap.size X (w.heap.size + 1 + 1 + 1 + 1) (w.heap.size + 1 + 1 + 1) ow nm ft l k mode)) := by
              intro W e1 e2 e3 e4
              have hl : LockIn w.heap.size W (w.heap.size + 1 + 1 + 1 + 1) (w.heap.size + 1 + 1 + 1) ow nm ft l := by
                obtain ⟨p1, ⟨es, cl, p2, p3⟩, p4, p5, p6, p7, p8, p9, p10⟩ := hSX.lock
                refine ⟨by rw [e1]; exact p1, ⟨es, cl, by rw [e1]; exact p2, p3⟩, fun j hj hh => ?_, fun j hj hh => by rw [e1]; exact p5 j hj hh, p6, p7, p8, p9, p10⟩
                obtain ⟨hb', hc', g1, g2, g3, g4⟩ := p4 j hj hh
                exact ⟨hb', hc', by rw [e1]; exact g1, by rw [e1]; exact g2, g3, g4⟩
              refine (add_any hl (by rw [e1]; exact hSX.below.size) hnm k mode hk4 hp2.2 hlen4 tg fr (by rw [e1]; exact hXG) hB0).mono ?_
              rintro en w2 ⟨g1, g2, g3, g4, g5, g6, g7⟩
              exact ⟨g1, g2, by rw [← e1]; exact g3, g4.trans e2, g5.trans e3, g6.trans e4, fun g hg h1 h2 h3 => by rw [← e1]; exact g7 g (by rw [e1]; exact hg) h1 h2 h3⟩
            have x1 : X.cell? ⟨wr.heap.size, 1, none⟩ = some (.int .u8 mode) := by rw [cell_of_row _ _ _ _ _ _ hXb]; rfl
            have x2 : X.cell? ⟨ob, k, none⟩ = some (.pointer (some ⟨ow k, 0, none⟩)) := by rw [cell_of_row _ _ _ _ _ _ hSX.os]; exact osC_at ow k hk4
            clear d1 d2 hX hS tX
            go_region_with (go_at_call 7; refine (HADD.out _ ?_ ?_ ?_ ?_).mono ?_; rfl; rfl; rfl; rfl; rintro en w2 ⟨rfl, g2, g3, g4, g5, g6, g7⟩)
            all_goals
              obtain ⟨s1, s2, s3, s4⟩ := hSX.added hXb hk4 g2 g3 g4 g5 g6 g7
              have hmo := modeOf_small l k (fun p hp => (hSX.lock.keys p hp).2)
              have hor := u8_or_nat (modeOf k l) mode hmo hp2.2
              have u1 : w2.cell? ⟨hb, k, none⟩ = some (.int .u8 (modeOf k l : Nat)) := by rw [cell_of_row _ _ _ _ _ _ s1]; exact hmC_at l k hk4
              have u2 : w2.frozen? ⟨hb, k, none⟩ = false := frozen_of_row _ _ _ _ _ s1
              have u3 : w2.cell? ⟨hb + 1, k, none⟩ = some (.bool (hasOf k l)) := by rw [cell_of_row _ _ _ _ _ _ s2]; exact seenC_at l k hk4
              have u4 : w2.frozen? ⟨hb + 1, k, none⟩ = false := frozen_of_row _ _ _ _ _ s2
              have u5 : w2.cell? ⟨wr.heap.size, 1, none⟩ = some (.int .u8 mode) := by rw [cell_of_row _ _ _ _ _ _ s3]; rfl
              have S4 : Hid (∀ W : World, W.heap = ((w2.setCell ⟨hb, k, none⟩ (.int .u8 (modeOf k l ||| mode : Nat))).setCell ⟨hb + 1, k, none⟩ (.bool true)).heap → W.os = w2.os → W.tape = w2.tape → W.output = w2.output → Steps w W ob hb (hb + 1) ow nm ft (addL l k mode)) := s4
              clear s1 s2 s3 s4 g2 g3 g4 g5 g6 g7 x1 x2 HADD hSX hXb hXG hXs
              go_wp2_with fail
              go_region
              go_wp2_with fail
              go_roundw
              case rel => first | exact ⟨i + 1, _, by omega, by go_num, S4.out _ rfl rfl rfl rfl⟩ | ((repeat apply Exists.intro); exact ⟨⟨i + 1, _, by omega, by go_num, S4.out _ rfl rfl rfl rfl⟩, rfl⟩)
              case measure => simp [intOf]; omega
          · have hfar := hS.far
            have hft2 := hft
            have HS : Hid (Steps w wr ob hb (hb + 1) ow nm ft l) := hS
            have o0 : wr.cell? ⟨ob, 0, none⟩ = some (.pointer (some ⟨ow 0, 0, none⟩)) := by rw [cell_of_row _ _ _ _ _ _ hS.os]; rfl
            have o1 : wr.cell? ⟨ob, 1, none⟩ = some (.pointer (some ⟨ow 1, 0, none⟩)) := by rw [cell_of_row _ _ _ _ _ _ hS.os]; rfl
            have o2 : wr.cell? ⟨ob, 2, none⟩ = some (.pointer (some ⟨ow 2, 0, none⟩)) := by rw [cell_of_row _ _ _ _ _ _ hS.os]; rfl
            have o3 : wr.cell? ⟨ob, 3, none⟩ = some (.pointer (some ⟨ow 3, 0, none⟩)) := by rw [cell_of_row _ _ _ _ _ _ hS.os]; rfl
            have m0 : wr.cell? ⟨hb, 0, none⟩ = some (.int .u8 (modeOf 0 l : Nat)) := by rw [cell_of_row _ _ _ _ _ _ hS.hm]; rfl
            have m1 : wr.cell? ⟨hb, 1, none⟩ = some (.int .u8 (modeOf 1 l : Nat)) := by rw [cell_of_row _ _ _ _ _ _ hS.hm]; rfl
            have m2 : wr.cell? ⟨hb, 2, none⟩ = some (.int .u8 (modeOf 2 l : Nat)) := by rw [cell_of_row _ _ _ _ _ _ hS.hm]; rfl
            have m3 : wr.cell? ⟨hb, 3, none⟩ = some (.int .u8 (modeOf 3 l : Nat)) := by rw [cell_of_row _ _ _ _ _ _ hS.hm]; rfl
            have s0 : wr.cell? ⟨hb + 1, 0, none⟩ = some (.bool (hasOf 0 l)) := by rw [cell_of_row _ _ _ _ _ _ hS.sn]; rfl
            have s1 : wr.cell? ⟨hb + 1, 1, none⟩ = some (.bool (hasOf 1 l)) := by rw [cell_of_row _ _ _ _ _ _ hS.sn]; rfl
            have s2 : wr.cell? ⟨hb + 1, 2, none⟩ = some (.bool (hasOf 2 l)) := by rw [cell_of_row _ _ _ _ _ _ hS.sn]; rfl
            have s3 : wr.cell? ⟨hb + 1, 3, none⟩ = some (.bool (hasOf 3 l)) := by rw [cell_of_row _ _ _ _ _ _ hS.sn]; rfl
            have a00 : wr.cell? ⟨w.heap.size, 0, none⟩ = some (.pointer none) := by rw [cell_of_row _ _ _ _ _ _ hS.r0]; rfl
            have f00 : wr.frozen? ⟨w.heap.size, 0, none⟩ = false := frozen_of_row _ _ _ _ _ hS.r0
            have a01 : wr.cell? ⟨w.heap.size, 1, none⟩ = some (.pointer none) := by rw [cell_of_row _ _ _ _ _ _ hS.r0]; rfl
            have f01 : wr.frozen? ⟨w.heap.size, 1, none⟩ = false := frozen_of_row _ _ _ _ _ hS.r0
            have a02 : wr.cell? ⟨w.heap.size, 2, none⟩ = some (.pointer none) := by rw [cell_of_row _ _ _ _ _ _ hS.r0]; rfl
            have f02 : wr.frozen? ⟨w.heap.size, 2, none⟩ = false := frozen_of_row _ _ _ _ _ hS.r0
            have a03 : wr.cell? ⟨w.heap.size, 3, none⟩ = some (.pointer none) := by rw [cell_of_row _ _ _ _ _ _ hS.r0]; rfl
            have f03 : wr.frozen? ⟨w.heap.size, 3, none⟩ = false := frozen_of_row _ _ _ _ _ hS.r0
            have a10 : wr.cell? ⟨w.heap.size + 1, 0, none⟩ = some (.int .u8 0) := by rw [cell_of_row _ _ _ _ _ _ hS.r1]; rfl
            have f10 : wr.frozen? ⟨w.heap.size + 1, 0, none⟩ = false := frozen_of_row _ _ _ _ _ hS.r1
            have a11 : wr.cell? ⟨w.heap.size + 1, 1, none⟩ = some (.int .u8 0) := by rw [cell_of_row _ _ _ _ _ _ hS.r1]; rfl
            have f11 : wr.frozen? ⟨w.heap.size + 1, 1, none⟩ = false := frozen_of_row _ _ _ _ _ hS.r1
            have a12 : wr.cell? ⟨w.heap.size + 1, 2, none⟩ = some (.int .u8 0) := by rw [cell_of_row _ _ _ _ _ _ hS.r1]; rfl
            have f12 : wr.frozen? ⟨w.heap.size + 1, 2, none⟩ = false := frozen_of_row _ _ _ _ _ hS.r1
            have a13 : wr.cell? ⟨w.heap.size + 1, 3, none⟩ = some (.int .u8 0) := by rw [cell_of_row _ _ _ _ _ _ hS.r1]; rfl
            have f13 : wr.frozen? ⟨w.heap.size + 1, 3, none⟩ = false := frozen_of_row _ _ _ _ _ hS.r1
            have a20 : wr.cell? ⟨w.heap.size + 1 + 1, 0, none⟩ = some (.bool false) := by rw [cell_of_row _ _ _ _ _ _ hS.r2]; rfl
            have f20 : wr.frozen? ⟨w.heap.size + 1 + 1, 0, none⟩ = false := frozen_of_row _ _ _ _ _ hS.r2
            have a21 : wr.cell? ⟨w.heap.size + 1 + 1, 1, none⟩ = some (.bool false) := by rw [cell_of_row _ _ _ _ _ _ hS.r2]; rfl
            have f21 : wr.frozen? ⟨w.heap.size + 1 + 1, 1, none⟩ = false := frozen_of_row _ _ _ _ _ hS.r2
            have a22 : wr.cell? ⟨w.heap.size + 1 + 1, 2, none⟩ = some (.bool false) := by rw [cell_of_row _ _ _ _ _ _ hS.r2]; rfl
            have f22 : wr.frozen? ⟨w.heap.size + 1 + 1, 2, none⟩ = false := frozen_of_row _ _ _ _ _ hS.r2
            have a23 : wr.cell? ⟨w.heap.size + 1 + 1, 3, none⟩ = some (.bool false) := by rw [cell_of_row _ _ _ _ _ _ hS.r2]; rfl
            have f23 : wr.frozen? ⟨w.heap.size + 1 + 1, 3, none⟩ = false := frozen_of_row _ _ _ _ _ hS.r2
            clear hL hLs hG HZS HZC hS
            go_wp2_with fail
            go_region
            go_wp2_with fail
            refine bodyPost_ret (v := .tuple #[ptr (w.heap.size + 1 + 1 + 1 + 1), .agg (osC ow), .agg (hmC l), .agg (seenC l)]) (by simp [results, Ybad.results5, go_sem, *, osC, hmC, seenC, ptr]) rfl ?_
            refine ⟨_, _, ow, ft, l, rfl, HS.out.done ?_ ?_, HS.out.nod, hft, ?_⟩
            · intro g n0 n1 n2
              rw [show ∀ x : World, x.drew.heap = x.heap from fun _ => rfl]
              iterate 4 rw [Below.heap_setCell _ _ _ _ n2]
              iterate 4 rw [Below.heap_setCell _ _ _ _ n1]
              iterate 4 rw [Below.heap_setCell _ _ _ _ n0]
            all_goals
              have hb1 := HS.out.below
              refine Below.drew ?_
              iterate 12 refine Below.setCell ?_ (by simp <;> omega) _
              exact hb1

end Go.Proofs.YbulkscaDoor
