/-
  THE PLAIN LAW of seat b6000104a's third statement: the registry of a reference. No Go in sight.
-/
import Derived.Test.Qxb6000104aJoin
import Derived.Lib.IndexAny
namespace Go.Proofs.Qxb6000104a

def hub : ByteArray := ⟨#[105, 110, 100, 101, 120, 46, 100, 111, 99, 107, 101, 114, 46, 105, 111]⟩
def dockerIo : ByteArray := ⟨#[100, 111, 99, 107, 101, 114, 46, 105, 111]⟩
def localhost : ByteArray := ⟨#[108, 111, 99, 97, 108, 104, 111, 115, 116]⟩

/-- The registry of a first element. -/
def hostP (h : ByteArray) : ByteArray :=
  if (h.toList == dockerIo.toList) = true then hub
  else if (h.toList == localhost.toList) = true then h
  else if (hasB h 46 || hasB h 58) = true then h
  else hub

/-- The registry of a repository. -/
def regP (R : ByteArray) : ByteArray :=
  if Lib.indexByte R.data.toList 47 = -1 then hub else hostP (R.extract 0 (Lib.indexByte R.data.toList 47).toNat)

theorem regP_miss {R : ByteArray} (h : Lib.indexByte R.data.toList 47 = -1) : regP R = hub := by
  unfold regP; rw [if_pos h]

theorem regP_hit {R : ByteArray} {p : Nat} (h : Lib.indexByte R.data.toList 47 = p) : regP R = hostP (R.extract 0 p) := by
  unfold regP
  rw [if_neg (by omega), h]; simp

theorem index_ge (l : List UInt8) (c : UInt8) : Lib.indexByte l c = -1 ∨ 0 ≤ Lib.indexByte l c := by
  have := Lib.indexByte_ge l c
  omega

/-- A beginning that reaches beyond the first place has the same first place. -/
theorem index_take {l : List UInt8} {c : UInt8} : ∀ {p a : Nat}, Lib.indexByte l c = p → p < a → Lib.indexByte (l.take a) c = p := by
  induction l with
  | nil => intro p a h _; simp [Lib.indexByte] at h
  | cons b l ih =>
    intro p a h ha
    obtain ⟨a', rfl⟩ : ∃ a', a = a' + 1 := ⟨a - 1, by omega⟩
    rw [List.take_succ_cons]
    unfold Lib.indexByte at h ⊢
    by_cases hb : (b == c) = true
    · rw [if_pos hb] at h ⊢; exact h
    · rw [if_neg hb] at h ⊢
      rcases index_ge l c with e | e
      · rw [e] at h; simp at h
      · have hne : (Lib.indexByte l c == -1) = false := by simp; omega
        rw [hne] at h
        simp only [Bool.false_eq_true, if_false] at h
        obtain ⟨q, hq⟩ : ∃ q : Nat, Lib.indexByte l c = q := ⟨(Lib.indexByte l c).toNat, by omega⟩
        have := ih hq (a := a') (by omega)
        rw [this]
        have hne2 : (((q : Nat) : Int) == -1) = false := by simp
        rw [hne2]
        simp only [Bool.false_eq_true, if_false]
        omega

theorem index_take_none {l : List UInt8} {c : UInt8} (a : Nat) (h : Lib.indexByte l c = -1) : Lib.indexByte (l.take a) c = -1 := by
  apply index_none
  intro hm
  have hm' : c ∈ l := List.mem_of_mem_take hm
  obtain ⟨x, y, rfl, hx⟩ : ∃ x y, l = x ++ c :: y ∧ c ∉ x := by
    clear h hm
    induction l with
    | nil => simp at hm'
    | cons b l ih =>
      by_cases hb : b = c
      · exact ⟨[], l, by simp [hb], by simp⟩
      · have : c ∈ l := by
          rcases List.mem_cons.1 hm' with e | e
          · exact absurd e.symm hb
          · exact e
        obtain ⟨x, y, e, hx⟩ := ih this
        exact ⟨b :: x, y, by rw [e]; rfl, by simp only [List.mem_cons, not_or]; exact ⟨fun e => hb e.symm, hx⟩⟩
  rw [index_at hx] at h
  omega

theorem index_in {l : List UInt8} {c : UInt8} {p : Nat} (h : Lib.indexByte l c = p) : l[p]? = some c := by
  induction l generalizing p with
  | nil => simp [Lib.indexByte] at h
  | cons b l ih =>
    unfold Lib.indexByte at h
    by_cases hb : (b == c) = true
    · rw [if_pos hb] at h
      have : p = 0 := by omega
      subst this
      simp; simpa using hb
    · rw [if_neg hb] at h
      rcases index_ge l c with e | e
      · rw [e] at h; simp at h
      · have hne : (Lib.indexByte l c == -1) = false := by simp; omega
        rw [hne] at h
        simp only [Bool.false_eq_true, if_false] at h
        obtain ⟨q, rfl⟩ : ∃ q, p = q + 1 := ⟨p - 1, by omega⟩
        simpa using ih (p := q) (by omega)

/-- The first slash lies before, or at, the last. -/
theorem first_le_last {B : ByteArray} {p : Nat} (h : Lib.indexByte B.data.toList 47 = p) : (p : Int) ≤ Lib.lastIndexByte B 47 := by
  have hat := index_in h
  have hp : p < B.size := by rw [Lib.size_eq]; exact (List.getElem?_eq_some_iff.1 hat).1
  have e : B.data[p]! = 47 := bang_list B p 47 hat
  rcases Lib.lastIndexByte_spec B 47 with ⟨_, hn⟩ | ⟨i, hi, e2, _, hn⟩
  · exact absurd (by rw [e]; rfl) (hn p hp)
  · rw [e2]
    rcases Nat.lt_or_ge i p with h1 | h1
    · exact absurd (by rw [e]; rfl) (hn p h1 hp)
    · omega

theorem take_list (B : ByteArray) (a : Nat) : (B.extract 0 a).data.toList = B.data.toList.take a := by
  rw [Lib.extract_data]; simp

theorem extract_extract (B : ByteArray) (p a : Nat) (h : p ≤ a) : (B.extract 0 a).extract 0 p = B.extract 0 p := by
  apply ext_list
  rw [take_list, take_list, take_list, List.take_take, Nat.min_eq_left h]

theorem reg_tag_none {B : ByteArray} (h : Lib.indexByte B.data.toList 47 = -1) : regP (tagP B).1 = hub := by
  by_cases t : Lib.lastIndexByte B 47 < Lib.lastIndexByte B 58
  · have b1 := last_bd B 58
    have b2 := last_bd B 47
    obtain ⟨a, ha⟩ : ∃ a : Nat, Lib.lastIndexByte B 58 = a := ⟨(Lib.lastIndexByte B 58).toNat, by omega⟩
    rw [ha] at t
    rw [tagP_yes ha t]
    exact regP_miss (by rw [take_list]; exact index_take_none a h)
  · rw [tagP_no t]; exact regP_miss h

theorem reg_tag_at {B : ByteArray} {p : Nat} (h : Lib.indexByte B.data.toList 47 = p) : regP (tagP B).1 = hostP (B.extract 0 p) := by
  by_cases t : Lib.lastIndexByte B 47 < Lib.lastIndexByte B 58
  · have b1 := last_bd B 58
    have b2 := last_bd B 47
    have hl := first_le_last h
    obtain ⟨a, ha⟩ : ∃ a : Nat, Lib.lastIndexByte B 58 = a := ⟨(Lib.lastIndexByte B 58).toNat, by omega⟩
    rw [ha] at t
    rw [tagP_yes ha t, regP_hit (p := p) (by rw [take_list]; exact index_take h (by omega)), extract_extract _ _ _ (by omega)]
  · rw [tagP_no t]; exact regP_hit h

/-- No slash ahead of the first at-sign (or of the end): the hub. -/
theorem reg_hub_miss {s : ByteArray} (h : Lib.indexByte s.data.toList 64 = -1) (hs : Lib.indexByte s.data.toList 47 = -1) : regP (splitP s).1 = hub := by
  rw [splitP_miss h]; exact reg_tag_none hs

theorem reg_host_miss {s : ByteArray} {p : Nat} (h : Lib.indexByte s.data.toList 64 = -1) (hs : Lib.indexByte s.data.toList 47 = p) : regP (splitP s).1 = hostP (s.extract 0 p) := by
  rw [splitP_miss h]; exact reg_tag_at hs

theorem reg_host_hit {s : ByteArray} {p q : Nat} (h : Lib.indexByte s.data.toList 64 = q) (hs : Lib.indexByte s.data.toList 47 = p) (hpq : p < q) : regP (splitP s).1 = hostP (s.extract 0 p) := by
  rw [splitP_hit h]
  show regP (tagP (s.extract 0 q)).1 = _
  rw [reg_tag_at (p := p) (by rw [take_list]; exact index_take hs hpq), extract_extract _ _ _ (by omega)]

theorem reg_hub_hit {s : ByteArray} {q : Nat} (h : Lib.indexByte s.data.toList 64 = q) (hs : ∀ i, i < q → s.data.toList[i]? ≠ some 47) : regP (splitP s).1 = hub := by
  rw [splitP_hit h]
  show regP (tagP (s.extract 0 q)).1 = _
  refine reg_tag_none ?_
  rw [take_list]
  apply index_none
  intro hm
  obtain ⟨i, hi, e⟩ := List.getElem_of_mem hm
  have hiq : i < q := by rw [List.length_take] at hi; omega
  refine hs i hiq ?_
  rw [List.getElem_take] at e
  rw [← e, List.getElem?_eq_getElem]

/-- strings.ContainsAny(h, ".:") is 'h holds a point or a colon'. -/
theorem any_has (h : ByteArray) : decide (0 ≤ Lib.indexAny h.data.toList [46, 58]) = (hasB h 46 || hasB h 58) := by
  unfold hasB
  generalize h.data.toList = l
  induction l with
  | nil => rfl
  | cons b l ih =>
    have hge := Lib.indexAny_ge [46, 58] l
    unfold Lib.indexAny
    rw [List.any_cons, List.any_cons]
    by_cases hb : ([46, 58] : List UInt8).contains b = true
    · rw [if_pos hb]
      simp at hb
      rcases hb with rfl | rfl <;> simp
    · rw [if_neg hb]
      simp at hb
      have n1 : ((b.toNat : Int) == 46) = false := by
        simp; intro e; exact hb.1 (UInt8.toNat_inj.1 (by show b.toNat = 46; omega))
      have n2 : ((b.toNat : Int) == 58) = false := by
        simp; intro e; exact hb.2 (UInt8.toNat_inj.1 (by show b.toNat = 58; omega))
      rw [n1, n2, Bool.false_or, Bool.false_or, ← ih]
      by_cases e : Lib.indexAny l [46, 58] = -1
      · rw [e]; rfl
      · have : (Lib.indexAny l [46, 58] == -1) = false := by simpa using e
        rw [this]
        simp only [Bool.false_eq_true, if_false]
        apply decide_eq_decide.2
        omega

end Go.Proofs.Qxb6000104a
