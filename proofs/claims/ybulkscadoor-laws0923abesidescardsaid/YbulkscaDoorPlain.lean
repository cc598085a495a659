import Derived.Test.YbulkscaDoorMap
namespace Go.Proofs.YbulkscaDoor
set_option linter.unusedVariables false

/-- How many of the list hold bit i. -/
def holdOf (l : List (Nat × Nat)) (i : Nat) : Nat := l.countP (fun p => p.2.testBit i)

def keysOf (l : List (Nat × Nat)) : List Nat := l.map (·.1)

theorem findAt_shift (g : Nat) : ∀ (l : List (Nat × Nat)) (i : Nat), findAt g l (i + 1) = (findAt g l i).map (fun p => (p.1 + 1, p.2))
  | [], i => by simp [findAt]
  | p :: r, i => by
    unfold findAt
    by_cases e : g = p.1
    · simp [e]
    · simp only [if_neg e]; exact findAt_shift g r (i + 1)

theorem hasOf_iff (g : Nat) : ∀ l : List (Nat × Nat), hasOf g l = true ↔ g ∈ keysOf l
  | [] => by simp [hasOf, findAt, keysOf]
  | p :: r => by
    have ih := hasOf_iff g r
    unfold hasOf at ih ⊢
    unfold findAt
    by_cases e : g = p.1
    · simp [e, keysOf]
    · rw [if_neg e, findAt_shift]
      simp only [keysOf, List.map_cons, List.mem_cons] at ih ⊢
      simp only [Option.isSome_map, ih]
      constructor
      · exact fun h => .inr h
      · rintro (h | h)
        · exact absurd h e
        · exact h

/-- Owners by their blocks. -/
def atBlocks (ow : Nat → Nat) (l : List (Nat × Nat)) : List (Nat × Nat) := l.map fun p => (ow p.1, p.2)

theorem findAt_blocks (ow : Nat → Nat) (k : Nat) : ∀ (l : List (Nat × Nat)) (i : Nat), (∀ p ∈ l, ow k = ow p.1 → k = p.1) → findAt (ow k) (atBlocks ow l) i = findAt k l i
  | [], i, _ => rfl
  | p :: r, i, h => by
    have ih := findAt_blocks ow k r (i + 1) (fun q hq => h q (by simp [hq]))
    simp only [atBlocks, List.map_cons, findAt] at ih ⊢
    by_cases e : k = p.1
    · simp [e]
    · rw [if_neg e, if_neg (fun h2 => e (h p (by simp) h2))]; exact ih

theorem modeOf_blocks (ow : Nat → Nat) (k : Nat) (l : List (Nat × Nat)) (h : ∀ p ∈ l, ow k = ow p.1 → k = p.1) : modeOf (ow k) (atBlocks ow l) = modeOf k l ∧ hasOf (ow k) (atBlocks ow l) = hasOf k l := by
  unfold modeOf hasOf
  rw [findAt_blocks ow k l 0 h]
  exact ⟨rfl, rfl⟩

theorem putAt_blocks (ow : Nat → Nat) (k v : Nat) (l : List (Nat × Nat)) (h : ∀ p ∈ l, ow k = ow p.1 → k = p.1) : putAt (ow k) v (atBlocks ow l) = atBlocks ow (putAt k v l) := by
  unfold putAt
  rw [findAt_blocks ow k l 0 h]
  cases findAt k l 0 with
  | none => simp [atBlocks]
  | some p => simp [atBlocks, List.map_set]

theorem countP_set {α : Type} (q : α → Bool) : ∀ (l : List α) (i : Nat) (a b : α), l[i]? = some a → (l.set i b).countP q + (if q a then 1 else 0) = l.countP q + (if q b then 1 else 0)
  | [], i, a, b, h => by simp at h
  | x :: r, 0, a, b, h => by
    simp at h
    subst h
    simp only [List.set_cons_zero, List.countP_cons]
    omega
  | x :: r, i + 1, a, b, h => by
    have ih := countP_set q r i a b (by simpa using h)
    simp only [List.set_cons_succ, List.countP_cons]
    omega

/-- What add makes of the list. -/
def addL (l : List (Nat × Nat)) (k m : Nat) : List (Nat × Nat) := putAt k (modeOf k l ||| m) l

theorem bit_and (x i : Nat) : (x &&& 2 ^ i ≠ 0) ↔ x.testBit i = true := by
  constructor
  · intro h
    apply Classical.byContradiction
    intro hn
    apply h
    apply Nat.eq_of_testBit_eq
    intro j
    rw [Nat.testBit_and, Nat.testBit_two_pow, Nat.zero_testBit]
    by_cases e : i = j
    · subst e; simp at hn; simp [hn]
    · simp [e]
  · intro h h0
    have h1 : (x &&& 2 ^ i).testBit i = true := by rw [Nat.testBit_and, Nat.testBit_two_pow_self, h]; rfl
    rw [h0] at h1
    simp at h1

theorem bit_andNot (m h i : Nat) (hh : h < 256) (hi : i < 4) : ((m &&& (255 - h)) &&& 2 ^ i ≠ 0) ↔ (m.testBit i = true ∧ h.testBit i = false) := by
  have key : (m &&& (255 - h)).testBit i = (m.testBit i && !h.testBit i) := by
    rw [Nat.testBit_and]
    have : (255 - h).testBit i = !h.testBit i := by
      have := Nat.testBit_two_pow_sub_succ (n := 8) (x := h) (by omega) i
      rw [show 2 ^ 8 - (h + 1) = 255 - h from by omega] at this
      rw [this]; simp; omega
    rw [this]
  have h2 := bit_and (m &&& (255 - h)) i
  rw [h2, key]
  cases m.testBit i <;> cases h.testBit i <;> simp

theorem holdOf_add (l : List (Nat × Nat)) (k m i : Nat) (hi : i < 4) (hl : ∀ p ∈ l, p.2 < 256) :
    holdOf (addL l k m) i = holdOf l i + if (m &&& (255 - modeOf k l)) &&& 2 ^ i ≠ 0 then 1 else 0 := by
  unfold addL putAt holdOf
  cases h : findAt k l 0 with
  | none =>
    have hm : modeOf k l = 0 := by simp [modeOf, h]
    have hb := bit_andNot m 0 i (by omega) hi
    simp only [List.countP_append, List.countP_cons, List.countP_nil, hm, Nat.zero_or]
    by_cases e : m.testBit i = true
    · rw [if_pos (hb.2 ⟨e, by simp⟩)]; simp [e]
    · rw [if_neg (fun h2 => e (hb.1 h2).1)]; simp [e]
  | some p =>
    obtain ⟨j, v0⟩ := p
    obtain ⟨x, hx, hlx⟩ := findAt_spec k l 0 j v0 h
    rw [Nat.zero_add] at hx
    subst hx
    have hm : modeOf k l = v0 := by simp [modeOf, h]
    have hv : v0 < 256 := hl (k, v0) (List.mem_of_getElem? hlx)
    have hb := bit_andNot m v0 i hv hi
    have hc := countP_set (fun p : Nat × Nat => p.2.testBit i) l j (k, v0) (k, v0 ||| m) hlx
    simp only [Nat.testBit_or] at hc
    rw [hm]
    by_cases e : m.testBit i = true <;> by_cases e2 : v0.testBit i = true
    · rw [if_neg (fun h2 => by have := (hb.1 h2).2; simp [e2] at this)]
      simp [e, e2] at hc ⊢; omega
    · rw [if_pos (hb.2 ⟨e, by simpa using e2⟩)]
      simp [e, e2] at hc ⊢; omega
    · rw [if_neg (fun h2 => e (hb.1 h2).1)]
      simp [e, e2] at hc ⊢; omega
    · rw [if_neg (fun h2 => e (hb.1 h2).1)]
      simp [e, e2] at hc ⊢; omega

theorem addL_length (l : List (Nat × Nat)) (k m : Nat) : (addL l k m).length = if hasOf k l then l.length else l.length + 1 := by
  unfold addL putAt hasOf
  cases h : findAt k l 0 with
  | none => simp
  | some p => simp

theorem addL_keys (l : List (Nat × Nat)) (k m : Nat) : keysOf (addL l k m) = if hasOf k l then keysOf l else keysOf l ++ [k] := by
  unfold addL putAt hasOf
  cases h : findAt k l 0 with
  | none => simp [keysOf]
  | some p =>
    obtain ⟨j, v0⟩ := p
    obtain ⟨x, hx, hlx⟩ := findAt_spec k l 0 j v0 h
    rw [Nat.zero_add] at hx
    subst hx
    simp only [keysOf, List.map_set, Option.isSome_some, if_true]
    apply List.ext_getElem?
    intro i
    by_cases e : i = j
    · subst e
      have : i < l.length := (List.getElem?_eq_some_iff.1 hlx).1
      rw [List.getElem?_set_self (by simpa using this), List.getElem?_map, hlx]; rfl
    · rw [List.getElem?_set_ne (by omega)]

theorem modeOf_small (l : List (Nat × Nat)) (k : Nat) (hl : ∀ p ∈ l, p.2 < 256) : modeOf k l < 256 := by
  unfold modeOf
  cases h : findAt k l 0 with
  | none => simp
  | some q =>
    obtain ⟨j, v0⟩ := q
    obtain ⟨x, hx, hlx⟩ := findAt_spec k l 0 j v0 h
    simpa using hl (k, v0) (List.mem_of_getElem? hlx)

theorem addL_small (l : List (Nat × Nat)) (k m : Nat) (hm : m < 256) (hl : ∀ p ∈ l, p.2 < 256) : ∀ p ∈ addL l k m, p.2 < 256 := by
  have hmo := modeOf_small l k hl
  have ho : modeOf k l ||| m < 256 := Nat.or_lt_two_pow (n := 8) hmo hm
  intro p hp
  unfold addL putAt at hp
  cases h : findAt k l 0 with
  | none =>
    rw [h] at hp
    simp only [List.mem_append, List.mem_singleton] at hp
    rcases hp with hp | hp
    · exact hl p hp
    · rw [hp]; exact ho
  | some q =>
    rw [h] at hp
    rcases List.mem_or_eq_of_mem_set hp with hp | hp
    · exact hl p hp
    · rw [hp]; exact ho

end Go.Proofs.YbulkscaDoor
