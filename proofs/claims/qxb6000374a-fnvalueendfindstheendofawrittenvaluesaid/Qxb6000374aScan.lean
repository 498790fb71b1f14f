/-
  THE PLAIN LAYER of valueEnd (seat b6000374a): the brackets of a written value. No Go in sight.
-/
import Derived.Test.Qxb6000374aPlain
namespace Go.Proofs.Qxb6000374a

/-- The scan of a value's text: the state (0: outside strings; 1: in one, the number of backslashes just before is even; 2: odd) and the depth. None where the outermost bracket is closed. -/
def vs : Nat → Nat → List UInt8 → Option (Nat × Nat)
  | st, d, [] => some (st, d)
  | st, d, c :: l =>
    if st = 0 then
      if c = 34 then vs 1 d l
      else if c = 123 ∨ c = 91 then vs 0 (d + 1) l
      else if c = 125 ∨ c = 93 then (if d ≤ 1 then none else vs 0 (d - 1) l)
      else vs 0 d l
    else if st = 1 then
      if c = 92 then vs 2 d l else if c = 34 then vs 0 d l else vs 1 d l
    else vs 1 d l

theorem vs_nil (st d : Nat) : vs st d [] = some (st, d) := by unfold vs; rfl

theorem vs_out (d : Nat) (c : UInt8) (l : List UInt8) : vs 0 d (c :: l) =
    if c = 34 then vs 1 d l
    else if c = 123 ∨ c = 91 then vs 0 (d + 1) l
    else if c = 125 ∨ c = 93 then (if d ≤ 1 then none else vs 0 (d - 1) l)
    else vs 0 d l := by rw [vs]; simp

theorem vs_even (d : Nat) (c : UInt8) (l : List UInt8) : vs 1 d (c :: l) = if c = 92 then vs 2 d l else if c = 34 then vs 0 d l else vs 1 d l := by rw [vs]; simp
theorem vs_odd (d : Nat) (c : UInt8) (l : List UInt8) : vs 2 d (c :: l) = vs 1 d l := by rw [vs]; simp

theorem vs_append (a b : List UInt8) : ∀ st d, vs st d (a ++ b) = (vs st d a).bind fun p => vs p.1 p.2 b := by
  induction a with
  | nil => intro st d; rw [vs_nil]; rfl
  | cons c a ih =>
    intro st d
    rw [List.cons_append]
    by_cases h0 : st = 0
    · subst h0
      rw [vs_out, vs_out]
      split
      · exact ih _ _
      · split
        · exact ih _ _
        · split
          · split
            · rfl
            · exact ih _ _
          · exact ih _ _
    · by_cases h1 : st = 1
      · subst h1
        rw [vs_even, vs_even]
        split
        · exact ih _ _
        · split <;> exact ih _ _
      · have e : ∀ l, vs st d (c :: l) = vs 1 d l := fun l => by rw [vs, if_neg h0, if_neg h1]
        rw [e, e]; exact ih _ _

/-- The rest of a string, and what stands behind it. -/
theorem vs_string {e : Nat × Nat} (he : e.1 = 0) : ∀ (R : List UInt8) (d : Nat) (o : Bool), vs (if o then 2 else 1) d R = some e →
    ∃ E S, R = E ++ 34 :: S ∧ quiet o E = some false ∧ vs 0 d S = some e := by
  intro R
  induction R with
  | nil =>
    intro d o h
    rw [vs_nil] at h
    have := congrArg Prod.fst (Option.some.inj h)
    rw [he] at this
    cases o <;> simp at this
  | cons c R ih =>
    intro d o h
    cases o
    · simp only [Bool.false_eq_true, if_false] at h
      rw [vs_even] at h
      by_cases h92 : c = 92
      · rw [if_pos h92] at h
        obtain ⟨E, S, rfl, h1, h2⟩ := ih d true (by simpa using h)
        exact ⟨c :: E, S, rfl, by rw [quiet_cons, if_pos h92]; exact h1, h2⟩
      · rw [if_neg h92] at h
        by_cases h34 : c = 34
        · rw [if_pos h34] at h
          exact ⟨[], R, by rw [h34]; rfl, rfl, h⟩
        · rw [if_neg h34] at h
          obtain ⟨E, S, rfl, h1, h2⟩ := ih d false (by simpa using h)
          exact ⟨c :: E, S, rfl, by rw [quiet_cons, if_neg h92, if_neg h34]; exact h1, h2⟩
    · simp only [if_true] at h
      rw [vs_odd] at h
      obtain ⟨E, S, rfl, h1, h2⟩ := ih d false (by simpa using h)
      refine ⟨c :: E, S, rfl, ?_, h2⟩
      rw [quiet_cons]
      split
      · exact h1
      · split
        · exact h1
        · exact h1

/-- A sign that the scan passes over. -/
def plain (c : UInt8) : Prop := c ≠ 34 ∧ c ≠ 123 ∧ c ≠ 91 ∧ c ≠ 125 ∧ c ≠ 93

theorem vs_plain {c : UInt8} (h : plain c) (d : Nat) (l : List UInt8) : vs 0 d (c :: l) = vs 0 d l := by
  obtain ⟨h1, h2, h3, h4, h5⟩ := h
  rw [vs_out, if_neg h1, if_neg (by simp [h2, h3]), if_neg (by simp [h4, h5])]

/-- The text of a written value: it opens with a bracket; its last sign closes that bracket. -/
def IsVal (T : List UInt8) : Prop := ∃ M x, T = 91 :: M ++ [x] ∧ vs 0 0 (91 :: M) = some (0, 1) ∧ (x = 125 ∨ x = 93)

end Go.Proofs.Qxb6000374a
