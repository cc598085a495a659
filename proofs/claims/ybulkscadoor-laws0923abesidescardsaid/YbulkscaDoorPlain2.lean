import Derived.Test.YbulkscaDoorPlain
namespace Go.Proofs.YbulkscaDoor
set_option linter.unusedVariables false

theorem modeOf_cons (k : Nat) (p : Nat × Nat) (r : List (Nat × Nat)) : modeOf k (p :: r) = if k = p.1 then p.2 else modeOf k r := by
  unfold modeOf
  rw [findAt]
  by_cases e : k = p.1
  · simp [e]
  · rw [if_neg e, if_neg e, findAt_shift]
    cases findAt k r 0 <;> simp

theorem hasOf_cons (k : Nat) (p : Nat × Nat) (r : List (Nat × Nat)) : hasOf k (p :: r) = if k = p.1 then true else hasOf k r := by
  unfold hasOf
  rw [findAt]
  by_cases e : k = p.1
  · simp [e]
  · rw [if_neg e, if_neg e, findAt_shift]
    cases findAt k r 0 <;> simp

theorem putAt_nil (k v : Nat) : putAt k v [] = [(k, v)] := by simp [putAt, findAt]
theorem putAt_cons (k v : Nat) (p : Nat × Nat) (r : List (Nat × Nat)) : putAt k v (p :: r) = if k = p.1 then (k, v) :: r else p :: putAt k v r := by
  unfold putAt
  rw [findAt]
  by_cases e : k = p.1
  · simp [e]
  · rw [if_neg e, if_neg e, findAt_shift]
    cases findAt k r 0 <;> simp

theorem modeOf_put (k v j : Nat) : ∀ l : List (Nat × Nat), modeOf j (putAt k v l) = if j = k then v else modeOf j l
  | [] => by
    rw [putAt_nil, modeOf_cons]
  | p :: r => by
    have ih := modeOf_put k v j r
    rw [putAt_cons]
    by_cases e : k = p.1
    · rw [if_pos e, modeOf_cons, modeOf_cons]
      by_cases e2 : j = k
      · simp [e2]
      · simp [e2, ← e]
    · rw [if_neg e, modeOf_cons, modeOf_cons, ih]
      by_cases e2 : j = p.1
      · have : j ≠ k := fun h => e (h.symm.trans e2)
        simp [e2]
        intro h
        exact absurd h.symm e
      · simp [e2]

theorem modeOf_add (l : List (Nat × Nat)) (k m j : Nat) : modeOf j (addL l k m) = if j = k then modeOf k l ||| m else modeOf j l := modeOf_put k _ j l

theorem hasOf_add (l : List (Nat × Nat)) (k m j : Nat) : hasOf j (addL l k m) = if j = k then true else hasOf j l := by
  have hkeys := addL_keys l k m
  by_cases e : j = k
  · rw [if_pos e, e, hasOf_iff, hkeys]
    by_cases hh : hasOf k l = true
    · rw [hh]; simpa using (hasOf_iff k l).1 hh
    · rw [Bool.not_eq_true] at hh; rw [hh]; simp
  · rw [if_neg e, Bool.eq_iff_iff, hasOf_iff, hasOf_iff, hkeys]
    cases hasOf k l <;> simp [e]

theorem nodup_add (l : List (Nat × Nat)) (k m : Nat) (h : (keysOf l).Nodup) : (keysOf (addL l k m)).Nodup := by
  rw [addL_keys]
  by_cases hh : hasOf k l = true
  · rw [hh]; simpa using h
  · have h1 : k ∉ keysOf l := fun h2 => hh ((hasOf_iff k l).2 h2)
    rw [Bool.not_eq_true] at hh
    rw [hh]
    simp only [Bool.false_eq_true, if_false]
    rw [List.nodup_append]
    refine ⟨h, by simp, ?_⟩
    intro a ha b hb e
    simp at hb
    subst hb
    subst e
    exact h1 ha

/-- A sum over the four owners. -/
theorem four (P : Nat → Nat → Bool) : ∀ (l : List (Nat × Nat)), (keysOf l).Nodup → (∀ p ∈ l, p.1 < 4) →
    l.countP (fun p => P p.1 p.2) = (if hasOf 0 l && P 0 (modeOf 0 l) then 1 else 0) + (if hasOf 1 l && P 1 (modeOf 1 l) then 1 else 0) + (if hasOf 2 l && P 2 (modeOf 2 l) then 1 else 0) + (if hasOf 3 l && P 3 (modeOf 3 l) then 1 else 0)
  | [], _, _ => by simp [hasOf, findAt]
  | p :: r, h, hl => by
    simp only [keysOf, List.map_cons, List.nodup_cons] at h
    have ih := four P r h.2 (fun q hq => hl q (by simp [hq]))
    have hp := hl p (by simp)
    have hno : hasOf p.1 r = false := by
      rw [Bool.eq_false_iff]
      intro h2
      exact h.1 ((hasOf_iff p.1 r).1 h2)
    rw [List.countP_cons, ih]
    simp only [hasOf_cons, modeOf_cons]
    obtain ⟨a, b⟩ := p
    simp only at hp hno ⊢
    have : a = 0 ∨ a = 1 ∨ a = 2 ∨ a = 3 := by omega
    rcases this with rfl | rfl | rfl | rfl <;> simp [hno] <;> omega

theorem length_four (l : List (Nat × Nat)) (h : (keysOf l).Nodup) (hl : ∀ p ∈ l, p.1 < 4) : l.length = (if hasOf 0 l then 1 else 0) + (if hasOf 1 l then 1 else 0) + (if hasOf 2 l then 1 else 0) + (if hasOf 3 l then 1 else 0) := by
  have := four (fun _ _ => true) l h hl
  simpa using this

theorem length_le (l : List (Nat × Nat)) (h : (keysOf l).Nodup) (hl : ∀ p ∈ l, p.1 < 4) : l.length ≤ 4 := by
  rw [length_four l h hl]
  repeat' split
  all_goals omega

theorem modeOf_none (l : List (Nat × Nat)) (k : Nat) (h : hasOf k l = false) : modeOf k l = 0 := by
  unfold hasOf at h
  unfold modeOf
  cases hh : findAt k l 0 with
  | none => rfl
  | some p => rw [hh] at h; simp at h

end Go.Proofs.YbulkscaDoor
