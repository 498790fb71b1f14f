/-
  THE PLAIN LAW of seat b6000104a's second statement: 'splitP' takes apart what was joined. No Go in sight.
-/
import Derived.Test.Qxb6000104aPlain
namespace Go.Proofs.Qxb6000104a

/-- The byte c (as a number) stands somewhere in s. -/
def hasB (s : ByteArray) (c : Int) : Bool := s.data.toList.any fun b => (b.toNat : Int) == c

theorem ext_list {a b : ByteArray} (h : a.data.toList = b.data.toList) : a = b := by
  rw [← Lib.mk_data a, ← Lib.mk_data b, h]

theorem bang_list (B : ByteArray) (j : Nat) (b : UInt8) (h : B.data.toList[j]? = some b) : B.data[j]! = b := by
  have h' : B.data[j]? = some b := by simpa using h
  rw [getElem!_def, h']

theorem hasB_no {s : ByteArray} {c : UInt8} (h : hasB s (c.toNat : Int) = false) : c ∉ s.data.toList := by
  intro hc
  unfold hasB at h
  rw [List.any_eq_false] at h
  exact h c hc (by simp)

theorem index_none {l : List UInt8} {c : UInt8} (h : c ∉ l) : Lib.indexByte l c = -1 := by
  induction l with
  | nil => rfl
  | cons b l ih =>
    simp only [List.mem_cons, not_or] at h
    unfold Lib.indexByte
    have : (b == c) = false := by simpa using fun e => h.1 e.symm
    rw [this, ih h.2]; rfl

theorem index_at {l m : List UInt8} {c : UInt8} (h : c ∉ l) : Lib.indexByte (l ++ c :: m) c = l.length := by
  induction l with
  | nil => simp [Lib.indexByte]
  | cons b l ih =>
    simp only [List.mem_cons, not_or] at h
    show (if b == c then (0 : Int) else if Lib.indexByte (l ++ c :: m) c == -1 then -1 else Lib.indexByte (l ++ c :: m) c + 1) = _
    have e : (b == c) = false := by simpa using fun e => h.1 e.symm
    rw [e, ih h.2]
    have : ((l.length : Int) == -1) = false := by simp
    rw [this]; simp

/-- The last place of a byte, told by what stands there and behind it. -/
theorem last_at {B : ByteArray} {c : UInt8} {l m : List UInt8} (hB : B.data.toList = l ++ c :: m) (h : c ∉ m) : Lib.lastIndexByte B (c.toNat : Int) = l.length := by
  have hsz : B.size = l.length + 1 + m.length := by rw [Lib.size_eq, hB]; simp; omega
  have hat : B.data[l.length]! = c := bang_list B _ _ (by rw [hB]; simp)
  have hbe : ∀ j, l.length < j → j < B.size → ((B.data[j]!).toNat : Int) ≠ (c.toNat : Int) := by
    intro j h1 h2
    obtain ⟨i, rfl⟩ : ∃ i, j = l.length + 1 + i := ⟨j - (l.length + 1), by omega⟩
    have hi : i < m.length := by omega
    have : B.data[l.length + 1 + i]! = m[i] := bang_list B _ _ (by
      rw [hB, List.getElem?_append_right (by omega), show l.length + 1 + i - l.length = i + 1 by omega]; simp [hi])
    rw [this]
    intro e
    exact h (by rw [← UInt8.toNat_inj.1 (show m[i].toNat = c.toNat by omega)]; exact List.getElem_mem hi)
  rcases Lib.lastIndexByte_spec B (c.toNat : Int) with ⟨_, hn⟩ | ⟨i, hi, e, hc, hn⟩
  · exact absurd (by rw [hat]) (hn l.length (by omega))
  · rw [e]
    rcases Nat.lt_trichotomy i l.length with h1 | h1 | h1
    · exact absurd (by rw [hat]) (hn l.length h1 (by omega))
    · rw [h1]
    · exact absurd hc (hbe i h1 hi)

/-- A byte that does not stand among the last bytes stands, at the last, before them. -/
theorem last_before {B : ByteArray} {c : UInt8} {l m : List UInt8} (hB : B.data.toList = l ++ m) (h : c ∉ m) : Lib.lastIndexByte B (c.toNat : Int) < l.length := by
  rcases Lib.lastIndexByte_spec B (c.toNat : Int) with ⟨e, _⟩ | ⟨i, hi, e, hc, hn⟩
  · omega
  · rw [e]
    rcases Nat.lt_or_ge i l.length with h1 | h1
    · omega
    · exfalso
      have hsz : B.size = l.length + m.length := by rw [Lib.size_eq, hB]; simp
      have hi' : i - l.length < m.length := by omega
      have : B.data[i]! = m[i - l.length] := bang_list B _ _ (by
        rw [hB, List.getElem?_append_right (by omega)]; simp [hi'])
      rw [this] at hc
      exact h (by rw [← UInt8.toNat_inj.1 (show m[i - l.length].toNat = c.toNat by omega)]; exact List.getElem_mem hi')

theorem take_ext {s r : ByteArray} {m : List UInt8} (h : s.data.toList = r.data.toList ++ m) : s.extract 0 r.size = r := by
  apply ext_list
  rw [Lib.extract_data, h, Lib.size_eq]; simp

theorem drop_ext {s t : ByteArray} {l : List UInt8} (h : s.data.toList = l ++ t.data.toList) : s.extract l.length s.size = t := by
  apply ext_list
  rw [Lib.extract_data, Lib.size_eq, h]
  rw [List.drop_left, List.length_append, Nat.add_sub_cancel_left, List.take_length]

theorem split_tag {s r t : ByteArray} (hs : s.data.toList = r.data.toList ++ 58 :: t.data.toList)
    (h1 : hasB r 64 = false) (h2 : hasB t 64 = false) (h3 : hasB t 58 = false) (h4 : hasB t 47 = false) : tagP s = (r, t) ∧ (64 : UInt8) ∉ s.data.toList := by
  have n1 := hasB_no (s := r) (c := 64) h1
  have n2 := hasB_no (s := t) (c := 64) h2
  have n3 := hasB_no (s := t) (c := 58) h3
  have n4 := hasB_no (s := t) (c := 47) h4
  have e1 : Lib.lastIndexByte s 58 = r.data.toList.length := last_at (c := 58) hs n3
  have e2 : Lib.lastIndexByte s 47 < (r.data.toList ++ [58]).length := last_before (c := 47) (m := t.data.toList) (by rw [hs]; simp) n4
  have e3 : Lib.lastIndexByte s 47 ≠ r.data.toList.length := by
    intro e
    rcases Lib.lastIndexByte_spec s 47 with ⟨e', _⟩ | ⟨i, hi, e', hc, _⟩
    · omega
    · have : i = r.data.toList.length := by omega
      subst this
      have : s.data[r.data.toList.length]! = 58 := bang_list s _ _ (by rw [hs]; simp)
      rw [this] at hc; simp at hc
  refine ⟨?_, ?_⟩
  · rw [tagP_yes e1 (by rw [List.length_append, List.length_singleton] at e2; omega)]
    rw [← Lib.size_eq, take_ext hs]
    have e := drop_ext (s := s) (t := t) (l := r.data.toList ++ [58]) (by rw [hs]; simp)
    rw [List.length_append, List.length_singleton, ← Lib.size_eq] at e
    rw [e]
  · rw [hs]
    simp only [List.mem_append, List.mem_cons, not_or]
    exact ⟨n1, by decide, n2⟩

theorem toList_join2 (a b : ByteArray) : (a ++ b).data.toList = a.data.toList ++ b.data.toList := by simp

theorem split_one (r t : ByteArray) (h1 : hasB r 64 = false) (h2 : hasB t 64 = false) (h3 : hasB t 58 = false) (h4 : hasB t 47 = false) :
    splitP (r ++ ⟨#[58]⟩ ++ t) = (r, t) := by
  have hs : (r ++ ⟨#[58]⟩ ++ t : ByteArray).data.toList = r.data.toList ++ 58 :: t.data.toList := by rw [toList_join2, toList_join2]; simp
  obtain ⟨e, n⟩ := split_tag hs h1 h2 h3 h4
  rw [splitP_miss (index_none n), e]

theorem split_at {s B d : ByteArray} (hs : s.data.toList = B.data.toList ++ 64 :: d.data.toList) (n : (64 : UInt8) ∉ B.data.toList) : splitP s = ((tagP B).1, d) := by
  have e : Lib.indexByte s.data.toList 64 = (B.size : Nat) := by rw [hs, index_at n, Lib.size_eq]
  rw [splitP_hit e, take_ext hs]
  have e := drop_ext (s := s) (t := d) (l := B.data.toList ++ [64]) (by rw [hs]; simp)
  rw [List.length_append, List.length_singleton, ← Lib.size_eq] at e
  rw [e]

theorem split_two (r t d : ByteArray) (h1 : hasB r 64 = false) (h2 : hasB t 64 = false) (h3 : hasB t 58 = false) (h4 : hasB t 47 = false) :
    splitP (r ++ ⟨#[58]⟩ ++ t ++ ⟨#[64]⟩ ++ d) = (r, d) := by
  have hs : (r ++ ⟨#[58]⟩ ++ t : ByteArray).data.toList = r.data.toList ++ 58 :: t.data.toList := by rw [toList_join2, toList_join2]; simp
  obtain ⟨e, n⟩ := split_tag hs h1 h2 h3 h4
  rw [split_at (B := r ++ ⟨#[58]⟩ ++ t) (d := d) (by rw [toList_join2, toList_join2]; simp) n, e]

theorem split_three (r d : ByteArray) (h1 : hasB r 64 = false) : splitP (r ++ ⟨#[64]⟩ ++ d) = ((splitP r).1, d) := by
  have n := hasB_no (s := r) (c := 64) h1
  rw [split_at (B := r) (d := d) (by rw [toList_join2, toList_join2]; simp) n, splitP_miss (index_none n)]

end Go.Proofs.Qxb6000104a
