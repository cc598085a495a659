import Derived.Test.YbulkscaDoorRows
import Derived.WalkKit
import Derived.ProofKit
import Derived.Below
import Derived.LaidEqlPtr
import Derived.MapKept
namespace Go.Proofs.YbulkscaDoor
open Go.RowKit
set_option linter.unusedVariables false

def ptr (g : Nat) : Value := .pointer (some ⟨g, 0, none⟩)

theorem info45 : (Ybad.prog.info? 45).map (fun i => (i.zero, i.size, i.bytes)) = some (some (.agg #[.int .i64 0, .slice none 0 0, .int .i64 0, .pointer none, .int .u64 0, .nilIface, .int .u64 0, .int .i64 0]), 8, 88) := by kernel_rfl

/-- Two owners' pointers are equal just if their blocks are. -/
theorem equal_ptr (w : World) (g g' : Nat) {c c' : Array Value} (hg : w.heap[g]? = some (.cells c 45 (0, 0))) (hg' : w.heap[g']? = some (.cells c' 45 (0, 0))) :
    (Op.equal 24 (ptr g) (ptr g')).run Ybad.prog w = .ok (decide (g = g')) w := by
  obtain ⟨i, h1, h2, h3, h4⟩ := info_parts info45
  have hsz : i.size ≠ 0 := by rw [h3]; decide
  by_cases e : g = g'
  · subst e
    have h : ∀ d : Nat, (Op.equalIn (d + 1) 24 (ptr g) (ptr g)).run Ybad.prog w = .ok true w := fun d => by
      simp [ptr, Op.equalIn, run_underlying Ybad.underlying24, sizeOf, typeInfo, h1, run_sameAddr_same]
    simp [Op.equal, Op.maxDepth, h 9999]
  · have hne : (⟨g, 0, none⟩ : Addr) ≠ ⟨g', 0, none⟩ := fun h => e (congrArg Addr.block h)
    have h : ∀ d : Nat, (Op.equalIn (d + 1) 24 (ptr g) (ptr g')).run Ybad.prog w = .ok false w := fun d => by
      simp [ptr, Op.equalIn, run_underlying Ybad.underlying24, sizeOf, typeInfo, h1, hsz, run_sameAddr_other w hne hg hg']
    simp [Op.equal, Op.maxDepth, h 9999, e]

/-- The entries hold, in their order, these pointers with these modes. -/
def Ents (es : List MapEntry) (l : List (Nat × Nat)) : Prop := es.map (fun e => (e.key, e.val)) = l.map (fun p => (ptr p.1, Value.int .u8 p.2))

/-- Where g is found. -/
def findAt (g : Nat) : List (Nat × Nat) → Nat → Option (Nat × Nat)
  | [], _ => none
  | p :: r, i => if g = p.1 then some (i, p.2) else findAt g r (i + 1)

theorem findAsking_run (w : World) (g : Nat) {c : Array Value} (hg : w.heap[g]? = some (.cells c 45 (0, 0))) : ∀ (es : List MapEntry) (l : List (Nat × Nat)) (i : Nat), Ents es l → (∀ p ∈ l, ∃ c, w.heap[p.1]? = some (.cells c 45 (0, 0))) →
    (Instr.findAsking 24 (ptr g) es i).run Ybad.prog w = .ok ((findAt g l i).map fun p => (p.1, Value.int .u8 p.2)) w
  | [], l, i, he, _ => by
    have : l = [] := by cases l <;> simp [Ents] at he ⊢
    subst this
    simp [Instr.findAsking, findAt]
  | e :: es, [], i, he, _ => by simp [Ents] at he
  | e :: es, p :: r, i, he, hl => by
    simp only [Ents, List.map_cons, List.cons.injEq, Prod.mk.injEq] at he
    obtain ⟨⟨hk, hv⟩, hr⟩ := he
    obtain ⟨c', hc'⟩ := hl p (by simp)
    have ih := findAsking_run w g hg es r (i + 1) hr (fun q hq => hl q (by simp [hq]))
    by_cases e1 : g = p.1
    · simp [Instr.findAsking, findAt, hk, hv, equal_ptr w p.1 p.1 hc' hc', e1]
    · simp [Instr.findAsking, findAt, hk, equal_ptr w g p.1 hg hc', e1, ih]

theorem findKey_run (w : World) (g : Nat) {c : Array Value} (hg : w.heap[g]? = some (.cells c 45 (0, 0))) (es : List MapEntry) (l : List (Nat × Nat)) (he : Ents es l) (hl : ∀ p ∈ l, ∃ c, w.heap[p.1]? = some (.cells c 45 (0, 0))) :
    (Instr.findKey 24 (ptr g) es).run Ybad.prog w = .ok ((findAt g l 0).map fun p => (p.1, Value.int .u8 p.2)) w := by
  cases es with
  | nil =>
    have : l = [] := by cases l <;> simp [Ents] at he ⊢
    subst this
    simp [Instr.findKey, Instr.findNow, run_underlying Ybad.underlying24, findAt]
  | cons e es =>
    have h : Instr.findNow (.pointer 45) (ptr g) (e :: es) 0 = none := by simp [Instr.findNow, Instr.sameNow]
    simp [Instr.findKey, run_underlying Ybad.underlying24, h, findAsking_run w g hg (e :: es) l 0 he hl]

def modeOf (g : Nat) (l : List (Nat × Nat)) : Nat := ((findAt g l 0).map (·.2)).getD 0
def hasOf (g : Nat) (l : List (Nat × Nat)) : Bool := (findAt g l 0).isSome
/-- g's mode put to v: in its place, or at the end. -/
def putAt (g v : Nat) (l : List (Nat × Nat)) : List (Nat × Nat) := match findAt g l 0 with
  | some (i, _) => l.set i (g, v)
  | none => l ++ [(g, v)]

theorem checkKey_run (w : World) (em : Bool) (g : Nat) : (Instr.checkKey em 10000 24 (ptr g)).run Ybad.prog w = .ok () w := by
  have h : ∀ n, (Instr.checkKey em (n + 1) 24 (ptr g)).run Ybad.prog w = .ok () w := fun n => by
    simp [Instr.checkKey, run_underlying Ybad.underlying24, ptr]
  exact h 9999

theorem lookup_run (w : World) (mp g : Nat) {c : Array Value} (hg : w.heap[g]? = some (.cells c 45 (0, 0))) (es : Array MapEntry) (clock : Nat) (hm : w.heap[mp]? = some (.map es clock)) (l : List (Nat × Nat)) (he : Ents es.toList l) (hl : ∀ p ∈ l, ∃ c, w.heap[p.1]? = some (.cells c 45 (0, 0))) :
    (Instr.lookup 31 (.map (some mp)) (ptr g) true).run Ybad.prog w = .ok (.tuple #[.int .u8 (modeOf g l : Nat), .bool (hasOf g l)]) w := by
  have hf := findKey_run w g hg es.toList l he hl
  have hob := MapKept.run_getObj_map (P := Ybad.prog) hm
  unfold modeOf hasOf
  cases h : findAt g l 0 with
  | none => simp [Instr.lookup, run_underlying Ybad.underlying31, hob, checkKey_run, hf, h]
  | some p => simp [Instr.lookup, run_underlying Ybad.underlying31, hob, checkKey_run, hf, h]

theorem findAt_spec (g : Nat) : ∀ (l : List (Nat × Nat)) (i j v : Nat), findAt g l i = some (j, v) → ∃ k, j = i + k ∧ l[k]? = some (g, v)
  | [], i, j, v, h => by simp [findAt] at h
  | p :: r, i, j, v, h => by
    unfold findAt at h
    by_cases e : g = p.1
    · rw [if_pos e] at h
      simp only [Option.some.injEq, Prod.mk.injEq] at h
      exact ⟨0, by omega, by simp [← h.2, e]⟩
    · rw [if_neg e] at h
      obtain ⟨k, h1, h2⟩ := findAt_spec g r (i + 1) j v h
      exact ⟨k + 1, by omega, by simpa using h2⟩

theorem sameBits_ptr (n g : Nat) : Instr.sameBits n (ptr g) (ptr g) = true := by cases n <;> simp [Instr.sameBits, ptr]

theorem update_run (w : World) (mp g v : Nat) {c : Array Value} (hg : w.heap[g]? = some (.cells c 45 (0, 0))) (es : Array MapEntry) (clock : Nat) (hm : w.heap[mp]? = some (.map es clock)) (l : List (Nat × Nat)) (he : Ents es.toList l) (hl : ∀ p ∈ l, ∃ c, w.heap[p.1]? = some (.cells c 45 (0, 0))) :
    ∃ es' clock', (Instr.mapUpdate 31 (.map (some mp)) (ptr g) (.int .u8 v)).run Ybad.prog w = .ok () { w with heap := w.heap.setIfInBounds mp (.map es' clock') } ∧ Ents es'.toList (putAt g v l) := by
  have hf := findKey_run w g hg es.toList l he hl
  have hob := MapKept.run_getObj_map (P := Ybad.prog) hm
  have hset := fun o => MapKept.run_setObj_map (P := Ybad.prog) o hm
  unfold putAt
  cases h : findAt g l 0 with
  | none =>
    refine ⟨es.push { key := ptr g, val := .int .u8 v, born := clock }, clock + 1, ?_, ?_⟩
    · simp [Instr.mapUpdate, run_underlying Ybad.underlying31, hob, checkKey_run, hf, h, hset]
    · simp only [Ents, Array.toList_push, List.map_append, List.map_cons, List.map_nil]
      rw [show es.toList.map (fun e => (e.key, e.val)) = _ from he]
  | some p =>
    obtain ⟨j, v0⟩ := p
    obtain ⟨k, hk, hlk⟩ := findAt_spec g l 0 j v0 h
    rw [Nat.zero_add] at hk
    subst hk
    have hkl : j < l.length := (List.getElem?_eq_some_iff.1 hlk).1
    have hlen : es.toList.length = l.length := by have := congrArg List.length he; simpa using this
    have hje : j < es.size := by simpa using (show j < es.toList.length by omega)
    have hkey : es[j].key = ptr g := by
      have h1 : (es.toList.map (fun e => (e.key, e.val)))[j]? = (l.map (fun p => (ptr p.1, Value.int .u8 p.2)))[j]? := by rw [show es.toList.map (fun e => (e.key, e.val)) = _ from he]
      rw [List.getElem?_map, List.getElem?_map, hlk] at h1
      simp [hje] at h1
      exact h1.1
    refine ⟨es.modify j fun e => { e with key := ptr g, val := .int .u8 v }, clock, ?_, ?_⟩
    · have hks : (Instr.keyThatStays (ptr g) (ptr g)).run Ybad.prog w = .ok (ptr g) w := by simp [Instr.keyThatStays, sameBits_ptr]
      simp [Instr.mapUpdate, run_underlying Ybad.underlying31, hob, checkKey_run, hf, h, hset, hje, hkey, hks]
    · have e1 : (es.modify j fun e => { e with key := ptr g, val := .int .u8 v }).toList.map (fun e => (e.key, e.val)) = (es.toList.map (fun e => (e.key, e.val))).set j (ptr g, .int .u8 v) := by
        apply List.ext_getElem?
        intro i
        by_cases e : i = j
        · subst e
          simp [hje]
        · rw [List.getElem?_set_ne (by omega), List.getElem?_map, List.getElem?_map]
          simp [Ne.symm e]
      unfold Ents
      rw [e1, show es.toList.map (fun e => (e.key, e.val)) = _ from he, List.map_set]

end Go.Proofs.YbulkscaDoor
