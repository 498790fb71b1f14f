/-
  THE PLAIN LAYER of seat b6000513a: decimal texts as lists of bytes. No Go in sight.
-/
import Derived.Lib.Strings
namespace Go.Proofs.Qxb6000513a

def isDig (c : UInt8) : Bool := decide (48 ≤ c.toNat) && decide (c.toNat ≤ 57)
def isSign (c : UInt8) : Bool := c == 43 || c == 45

/-- One or more digits. -/
def digs (l : List UInt8) : Bool := !l.isEmpty && l.all isDig

/-- One step of the automaton. -/
def step (st : Nat) (c : UInt8) : Option Nat :=
  if st = 0 then (if isSign c then some 1 else if isDig c then some 2 else none)
  else if st = 1 then (if isDig c then some 2 else none)
  else if st = 2 then (if c = 46 then some 3 else if isDig c then some 2 else none)
  else if st = 3 then (if isDig c then some 4 else none)
  else (if isDig c then some st else none)

/-- The automaton, from a state on. -/
def run (st : Nat) : List UInt8 → Bool
  | [] => decide (st = 2 ∨ st = 4)
  | c :: l => match step st c with
    | none => false
    | some st' => run st' l

/-- The text behind its sign. -/
def strip : List UInt8 → List UInt8
  | [] => []
  | c :: l => if isSign c then l else c :: l

/-- What Valid answers. -/
def validL (l : List UInt8) : Bool := run 1 (strip l)

theorem run_cons (st : Nat) (c : UInt8) (l : List UInt8) : run st (c :: l) = (match step st c with | none => false | some st' => run st' l) := rfl

theorem run4 (l : List UInt8) : run 4 l = l.all isDig := by
  induction l with
  | nil => rfl
  | cons c l ih =>
    rw [run_cons, List.all_cons, ← ih]
    cases h : isDig c <;> simp [step, h]

theorem run3 (l : List UInt8) : run 3 l = digs l := by
  cases l with
  | nil => rfl
  | cons c l =>
    rw [run_cons]
    cases h : isDig c <;> simp [step, h, digs, run4]

theorem isDig_dot : isDig 46 = false := by decide

theorem run2_none {l : List UInt8} (h : (46 : UInt8) ∉ l) : run 2 l = l.all isDig := by
  induction l with
  | nil => rfl
  | cons c l ih =>
    simp only [List.mem_cons, not_or] at h
    rw [run_cons, List.all_cons, ← ih h.2]
    have hc : ¬ c = 46 := fun e => h.1 e.symm
    cases hd : isDig c <;> simp [step, hc, hd]

theorem digs_mid (x y : List UInt8) : digs (x ++ 46 :: y) = false := by
  unfold digs
  simp [isDig_dot]

theorem run2_join (a b : List UInt8) : run 2 (a ++ 46 :: b) = (a.all isDig && digs b) := by
  induction a with
  | nil => simp [run_cons, step, run3]
  | cons c a ih =>
    rw [List.cons_append, run_cons, List.all_cons]
    by_cases hc : c = 46
    · subst hc; simp [step, run3, digs_mid, isDig_dot]
    · cases hd : isDig c
      · simp [step, hc, hd]
      · simp [step, hc, hd, ih]

theorem run1_none {l : List UInt8} (h : (46 : UInt8) ∉ l) : run 1 l = digs l := by
  cases l with
  | nil => rfl
  | cons c l =>
    simp only [List.mem_cons, not_or] at h
    rw [run_cons]
    cases hd : isDig c <;> simp [step, hd, digs, run2_none h.2]

theorem run1_join (a b : List UInt8) : run 1 (a ++ 46 :: b) = (digs a && digs b) := by
  cases a with
  | nil => simp [run_cons, step, isDig_dot, digs]
  | cons c a =>
    rw [List.cons_append, run_cons]
    cases hd : isDig c <;> simp [step, hd, digs, run2_join]

theorem strip_sign {c : UInt8} {l : List UInt8} (h : isSign c = true) : strip (c :: l) = l := by simp [strip, h]
theorem strip_other {c : UInt8} {l : List UInt8} (h : isSign c = false) : strip (c :: l) = c :: l := by simp [strip, h]

/-- The grammar's law: the automaton from its start is the automaton behind the sign. -/
theorem run0 (l : List UInt8) : run 0 l = validL l := by
  unfold validL
  cases l with
  | nil => rfl
  | cons c l =>
    cases hs : isSign c
    · rw [strip_other hs, run_cons, run_cons]
      cases hd : isDig c <;> simp [step, hs, hd]
    · rw [strip_sign hs, run_cons]
      simp [step, hs]

theorem valid_join (a b : List UInt8) : validL (45 :: (a ++ 46 :: b)) = (digs a && digs b) := by
  unfold validL
  rw [strip_sign (by decide), run1_join]

theorem valid_end (a : List UInt8) : validL (a ++ [46]) = false := by
  unfold validL
  cases a with
  | nil => rfl
  | cons c a =>
    rw [List.cons_append]
    cases hs : isSign c
    · rw [strip_other hs, ← List.cons_append, run1_join]; simp [digs]
    · rw [strip_sign hs, run1_join]; simp [digs]

theorem valid_start (b : List UInt8) : validL (46 :: b) = false := by
  unfold validL
  rw [strip_other (by decide), ← List.nil_append (46 :: b), run1_join]; simp [digs]

theorem digs_no_dot {l : List UInt8} (h : (46 : UInt8) ∈ l) : digs l = false := by
  unfold digs
  rw [Bool.and_eq_false_iff]
  right
  rw [List.all_eq_false]
  exact ⟨46, h, by decide⟩

theorem digs_sign {c : UInt8} {l : List UInt8} (h : isSign c = true) : digs (c :: l) = false := by
  have : isDig c = false := by
    unfold isSign at h
    simp only [Bool.or_eq_true, beq_iff_eq] at h
    rcases h with rfl | rfl <;> decide
  simp [digs, this]

theorem digs_plain {l : List UInt8} (h : (46 : UInt8) ∉ l) (hs : ∀ c t, l = c :: t → isSign c = false) : validL l = digs l := by
  unfold validL
  have : strip l = l := by
    cases l with
    | nil => rfl
    | cons c t => exact strip_other (hs c t rfl)
  rw [this, run1_none h]

end Go.Proofs.Qxb6000513a
