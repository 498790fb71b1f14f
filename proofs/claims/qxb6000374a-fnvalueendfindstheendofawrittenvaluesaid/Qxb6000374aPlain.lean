/-
  THE PLAIN LAYER of seat b6000374a: quotes and backslashes in a list of bytes. No Go in sight.
-/
namespace Go.Proofs.Qxb6000374a

/-- How many backslashes stand right before place j. -/
def bsr (L : List UInt8) : Nat → Nat
  | 0 => 0
  | j + 1 => if L[j]? = some 92 then bsr L j + 1 else 0

theorem bsr_le (L : List UInt8) (j : Nat) : bsr L j ≤ j := by
  induction j with
  | zero => exact Nat.le_refl _
  | succ j ih => unfold bsr; split <;> omega

theorem bsr_hit {L : List UInt8} {j : Nat} (h : L[j]? = some 92) : bsr L (j + 1) = bsr L j + 1 := by simp [bsr, h]
theorem bsr_miss {L : List UInt8} {j : Nat} (h : L[j]? ≠ some 92) : bsr L (j + 1) = 0 := by simp [bsr, h]

/-- The text of a string, read from a state ('an odd number of backslashes just before'): none where an unescaped quote is met. -/
def quiet (o : Bool) : List UInt8 → Option Bool
  | [] => some o
  | c :: l => if c = 92 then quiet (!o) l else if c = 34 then (if o then quiet false l else none) else quiet false l

theorem quiet_cons (o : Bool) (c : UInt8) (l : List UInt8) : quiet o (c :: l) = if c = 92 then quiet (!o) l else if c = 34 then (if o then quiet false l else none) else quiet false l := rfl

theorem quiet_append (o : Bool) (a b : List UInt8) : quiet o (a ++ b) = (quiet o a).bind fun p => quiet p b := by
  induction a generalizing o with
  | nil => rfl
  | cons c a ih =>
    rw [List.cons_append, quiet_cons, quiet_cons]
    split
    · exact ih _
    · split
      · split
        · exact ih _
        · rfl
      · exact ih _

/-- The text whose quotes and backslashes are each given a backslash. -/
def esc : List UInt8 → List UInt8
  | [] => []
  | c :: l => if c = 34 ∨ c = 92 then 92 :: c :: esc l else c :: esc l

theorem esc_cons (c : UInt8) (l : List UInt8) : esc (c :: l) = if c = 34 ∨ c = 92 then 92 :: c :: esc l else c :: esc l := rfl

theorem esc_append (a b : List UInt8) : esc (a ++ b) = esc a ++ esc b := by
  induction a with
  | nil => rfl
  | cons c a ih =>
    rw [List.cons_append, esc_cons, esc_cons]
    split <;> simp [ih]

theorem esc_le (a : List UInt8) : (esc a).length ≤ 2 * a.length := by
  induction a with
  | nil => exact Nat.le_refl _
  | cons c a ih => unfold esc; split <;> simp <;> omega

theorem esc_quiet (a : List UInt8) : quiet false (esc a) = some false := by
  induction a with
  | nil => rfl
  | cons c a ih =>
    unfold esc
    split
    · rename_i h
      rcases h with rfl | rfl
      · show quiet false (92 :: 34 :: esc a) = _
        simp [quiet, ih]
      · show quiet false (92 :: 92 :: esc a) = _
        simp [quiet, ih]
    · rename_i h
      simp only [not_or] at h
      show quiet false (c :: esc a) = _
      unfold quiet
      rw [if_neg h.2, if_neg h.1]
      exact ih

/-- What a quiet text says of the places in it: its quotes stand behind an odd number of backslashes; at its end the number's parity is the last state. -/
theorem quiet_places {L : List UInt8} : ∀ {E : List UInt8} {a : Nat} {o p : Bool}, (∀ t, t < E.length → L[a + t]? = E[t]?) → (bsr L a % 2 = if o then 1 else 0) → quiet o E = some p →
    (bsr L (a + E.length) % 2 = if p then 1 else 0) ∧ ∀ j, a ≤ j → j < a + E.length → L[j]? = some 34 → bsr L j % 2 = 1 := by
  intro E
  induction E with
  | nil =>
    intro a o p _ h0 h
    simp only [quiet, Option.some.injEq] at h
    subst h
    exact ⟨h0, fun j h1 h2 => by simp at h2; omega⟩
  | cons c E ih =>
    intro a o p hE h0 h
    have hc : L[a]? = some c := by simpa using hE 0 (by simp)
    have hE' : ∀ t, t < E.length → L[a + 1 + t]? = E[t]? := by
      intro t ht
      have := hE (t + 1) (by simp; omega)
      rw [show a + (t + 1) = a + 1 + t by omega] at this
      simpa using this
    have hl : a + (c :: E).length = a + 1 + E.length := by simp; omega
    rw [hl]
    unfold quiet at h
    by_cases h92 : c = 92
    · rw [if_pos h92] at h
      have hb : bsr L (a + 1) % 2 = if (!o) then 1 else 0 := by
        rw [bsr_hit (by rw [hc, h92])]
        cases o <;> simp at h0 ⊢ <;> omega
      obtain ⟨r1, r2⟩ := ih hE' hb h
      refine ⟨r1, fun j h1 h2 h3 => ?_⟩
      by_cases e : j = a
      · subst e; rw [hc, h92] at h3; simp at h3
      · exact r2 j (by omega) h2 h3
    · rw [if_neg h92] at h
      have hb : bsr L (a + 1) % 2 = if false then 1 else 0 := by
        rw [bsr_miss (by rw [hc]; simpa using h92)]; rfl
      by_cases h34 : c = 34
      · rw [if_pos h34] at h
        cases o
        · simp at h
        · simp only [if_true] at h h0
          obtain ⟨r1, r2⟩ := ih hE' hb h
          refine ⟨r1, fun j h1 h2 h3 => ?_⟩
          by_cases e : j = a
          · subst e; exact h0
          · exact r2 j (by omega) h2 h3
      · rw [if_neg h34] at h
        obtain ⟨r1, r2⟩ := ih hE' hb h
        refine ⟨r1, fun j h1 h2 h3 => ?_⟩
        by_cases e : j = a
        · subst e; rw [hc] at h3; simp at h3; exact absurd h3 h34
        · exact r2 j (by omega) h2 h3

/-- A string in the list L: its opening quote at i, its closing quote at q. -/
def IsStr (L : List UInt8) (i q : Nat) : Prop :=
  i < q ∧ q < L.length ∧ L[i]? = some 34 ∧ L[q]? = some 34 ∧ bsr L q % 2 = 0 ∧ ∀ j, i < j → j < q → L[j]? = some 34 → bsr L j % 2 = 1

theorem isStr_of (P E S : List UInt8) (h : quiet false E = some false) : IsStr (P ++ 34 :: (E ++ 34 :: S)) P.length (P.length + 1 + E.length) := by
  have h0 : (P ++ 34 :: (E ++ 34 :: S))[P.length]? = some 34 := by simp
  have hE : ∀ t, t < E.length → (P ++ 34 :: (E ++ 34 :: S))[P.length + 1 + t]? = E[t]? := by
    intro t ht
    rw [List.getElem?_append_right (by omega), show P.length + 1 + t - P.length = t + 1 by omega, List.getElem?_cons_succ, List.getElem?_append_left ht]
  have hb : bsr (P ++ 34 :: (E ++ 34 :: S)) (P.length + 1) % 2 = if false then 1 else 0 := by
    rw [bsr_miss (by rw [h0]; simp)]; rfl
  obtain ⟨r1, r2⟩ := quiet_places hE hb h
  refine ⟨by omega, by simp; omega, h0, ?_, by simpa using r1, fun j h1 h2 h3 => r2 j (by omega) h2 h3⟩
  rw [List.getElem?_append_right (by omega), show P.length + 1 + E.length - P.length = E.length + 1 by omega, List.getElem?_cons_succ, List.getElem?_append_right (by omega)]
  simp

end Go.Proofs.Qxb6000374a
