/-
  THE WALK of Valid and hasByte (seat b6000513a).
-/
import Derived.Test.Qxb6000513aWalk
namespace Go.Proofs.Qxb6000513a
open Go.RowKit

theorem list_cons (s : ByteArray) (h : 0 < s.size) : s.data.toList = s[0] :: (s.extract 1 s.size).data.toList := by
  rw [Lib.extract_data, Lib.size_eq]
  have e1 : (s.data.toList.drop 1).take (s.data.toList.length - 1) = s.data.toList.drop 1 := List.take_of_length_le (by simp)
  rw [e1]
  have e := data_at s 0 h
  cases hl : s.data.toList with
  | nil => rw [hl] at e; simp at e
  | cons a t => rw [hl] at e; simp at e; simp [e]

theorem nonempty_size {s : ByteArray} (h : s.toList.isEmpty = false) : 0 < s.size := by
  rw [Lib.size_eq]
  rw [Lib.toList_data] at h
  cases hl : s.data.toList with
  | nil => rw [hl] at h; simp at h
  | cons a t => simp

theorem empty_list {s : ByteArray} (h : s.toList.isEmpty = true) : s.data.toList = [] := by
  rw [Lib.toList_data] at h
  simpa using h

theorem isSign_of {c : UInt8} (h : ((c.toNat : Int) == 43) = true ∨ ((c.toNat : Int) == 45) = true) : isSign c = true := by
  unfold isSign
  simp only [Bool.or_eq_true, beq_iff_eq] at h ⊢
  rcases h with h | h
  · left; exact UInt8.toNat_inj.1 (by show c.toNat = 43; omega)
  · right; exact UInt8.toNat_inj.1 (by show c.toNat = 45; omega)

theorem isSign_not {c : UInt8} (h : ((c.toNat : Int) == 43) = false) (h2 : ((c.toNat : Int) == 45) = false) : isSign c = false := by
  unfold isSign
  simp only [Bool.or_eq_false_iff, beq_eq_false_iff_ne] at h h2 ⊢
  exact ⟨fun e => h (by rw [e]; rfl), fun e => h2 (by rw [e]; rfl)⟩

set_option maxHeartbeats 1000000 in
theorem valid_empty (s : ByteArray) (hs : s.size ≤ 2097152) (h0 : s.toList.isEmpty = true) (w : World) :
    Calls Try.prog 12 #[.string s] w fun e w' => e = .returned (.bool (validL s.data.toList)) ∧ Qt w w' := by
  obtain ⟨X, Y, f, HC0, hX, hY, hr⟩ := cut_dot (s) (hs)
  have HC : Hid (∀ w, Calls Try.prog 22 #[.string (s), .string ⟨#[46]⟩] w fun e w' => e = .returned (.tuple #[.string X, .string Y, .bool f]) ∧ Qt w w') := HC0
  clear HC0
  have hv : validL s.data.toList = (digs X.data.toList && (!f || digs Y.data.toList)) := by
    rw [hr]; unfold validL; rw [empty_list h0]; rfl
  rw [hv]
  clear hv hr
  cases f
  · cases hdx : digs X.data.toList
    · go_enter Try.func12, Try.ntmps12
      go_wp2_with (first
        | (go_at_call 22; refine (HC.out _).mono ?_; rintro e w1 ⟨rfl, hq⟩)
        | (go_at_call_of 23 (Value.string X); refine (allDigits_any _ hX _).mono ?_; rintro e w' ⟨rfl, rfl⟩)
        | (go_at_call_of 23 (Value.string Y); refine (allDigits_any _ hY _).mono ?_; rintro e w' ⟨rfl, rfl⟩))
      all_goals go_ret
      all_goals exact ⟨rfl, hq⟩
    · go_enter Try.func12, Try.ntmps12
      go_wp2_with (first
        | (go_at_call 22; refine (HC.out _).mono ?_; rintro e w1 ⟨rfl, hq⟩)
        | (go_at_call_of 23 (Value.string X); refine (allDigits_any _ hX _).mono ?_; rintro e w' ⟨rfl, rfl⟩)
        | (go_at_call_of 23 (Value.string Y); refine (allDigits_any _ hY _).mono ?_; rintro e w' ⟨rfl, rfl⟩))
      all_goals go_ret
      all_goals exact ⟨rfl, hq⟩
  · cases hdx : digs X.data.toList
    · go_enter Try.func12, Try.ntmps12
      go_wp2_with (first
        | (go_at_call 22; refine (HC.out _).mono ?_; rintro e w1 ⟨rfl, hq⟩)
        | (go_at_call_of 23 (Value.string X); refine (allDigits_any _ hX _).mono ?_; rintro e w' ⟨rfl, rfl⟩)
        | (go_at_call_of 23 (Value.string Y); refine (allDigits_any _ hY _).mono ?_; rintro e w' ⟨rfl, rfl⟩))
      all_goals go_ret
      all_goals exact ⟨rfl, hq⟩
    · cases hdy : digs Y.data.toList
      · go_enter Try.func12, Try.ntmps12
        go_wp2_with (first
          | (go_at_call 22; refine (HC.out _).mono ?_; rintro e w1 ⟨rfl, hq⟩)
          | (go_at_call_of 23 (Value.string X); refine (allDigits_any _ hX _).mono ?_; rintro e w' ⟨rfl, rfl⟩)
          | (go_at_call_of 23 (Value.string Y); refine (allDigits_any _ hY _).mono ?_; rintro e w' ⟨rfl, rfl⟩))
        all_goals go_ret
        all_goals exact ⟨rfl, hq⟩
      · go_enter Try.func12, Try.ntmps12
        go_wp2_with (first
          | (go_at_call 22; refine (HC.out _).mono ?_; rintro e w1 ⟨rfl, hq⟩)
          | (go_at_call_of 23 (Value.string X); refine (allDigits_any _ hX _).mono ?_; rintro e w' ⟨rfl, rfl⟩)
          | (go_at_call_of 23 (Value.string Y); refine (allDigits_any _ hY _).mono ?_; rintro e w' ⟨rfl, rfl⟩))
        all_goals go_ret
        all_goals exact ⟨rfl, hq⟩

set_option maxHeartbeats 1000000 in
theorem valid_plus (s : ByteArray) (hs : s.size ≤ 2097152) (h0 : s.toList.isEmpty = false) (hp : 0 < s.size) (hc : ((s[0].toNat : Int) == 43) = true) (w : World) :
    Calls Try.prog 12 #[.string s] w fun e w' => e = .returned (.bool (validL s.data.toList)) ∧ Qt w w' := by
  have c4 : (1 : Int) ≤ ↑s.size := by omega
  obtain ⟨X, Y, f, HC0, hX, hY, hr⟩ := cut_dot (s.extract 1 s.size) (by simp; omega)
  have HC : Hid (∀ w, Calls Try.prog 22 #[.string (s.extract 1 s.size), .string ⟨#[46]⟩] w fun e w' => e = .returned (.tuple #[.string X, .string Y, .bool f]) ∧ Qt w w') := HC0
  clear HC0
  have hv : validL s.data.toList = (digs X.data.toList && (!f || digs Y.data.toList)) := by
    rw [hr]; unfold validL; rw [list_cons s hp, strip_sign (isSign_of (.inl hc))]
  rw [hv]
  clear hv hr
  cases f
  · cases hdx : digs X.data.toList
    · go_enter Try.func12, Try.ntmps12
      go_wp2_with (first
        | (go_at_call 22; refine (HC.out _).mono ?_; rintro e w1 ⟨rfl, hq⟩)
        | (go_at_call_of 23 (Value.string X); refine (allDigits_any _ hX _).mono ?_; rintro e w' ⟨rfl, rfl⟩)
        | (go_at_call_of 23 (Value.string Y); refine (allDigits_any _ hY _).mono ?_; rintro e w' ⟨rfl, rfl⟩))
      all_goals go_ret
      all_goals exact ⟨rfl, hq⟩
    · go_enter Try.func12, Try.ntmps12
      go_wp2_with (first
        | (go_at_call 22; refine (HC.out _).mono ?_; rintro e w1 ⟨rfl, hq⟩)
        | (go_at_call_of 23 (Value.string X); refine (allDigits_any _ hX _).mono ?_; rintro e w' ⟨rfl, rfl⟩)
        | (go_at_call_of 23 (Value.string Y); refine (allDigits_any _ hY _).mono ?_; rintro e w' ⟨rfl, rfl⟩))
      all_goals go_ret
      all_goals exact ⟨rfl, hq⟩
  · cases hdx : digs X.data.toList
    · go_enter Try.func12, Try.ntmps12
      go_wp2_with (first
        | (go_at_call 22; refine (HC.out _).mono ?_; rintro e w1 ⟨rfl, hq⟩)
        | (go_at_call_of 23 (Value.string X); refine (allDigits_any _ hX _).mono ?_; rintro e w' ⟨rfl, rfl⟩)
        | (go_at_call_of 23 (Value.string Y); refine (allDigits_any _ hY _).mono ?_; rintro e w' ⟨rfl, rfl⟩))
      all_goals go_ret
      all_goals exact ⟨rfl, hq⟩
    · cases hdy : digs Y.data.toList
      · go_enter Try.func12, Try.ntmps12
        go_wp2_with (first
          | (go_at_call 22; refine (HC.out _).mono ?_; rintro e w1 ⟨rfl, hq⟩)
          | (go_at_call_of 23 (Value.string X); refine (allDigits_any _ hX _).mono ?_; rintro e w' ⟨rfl, rfl⟩)
          | (go_at_call_of 23 (Value.string Y); refine (allDigits_any _ hY _).mono ?_; rintro e w' ⟨rfl, rfl⟩))
        all_goals go_ret
        all_goals exact ⟨rfl, hq⟩
      · go_enter Try.func12, Try.ntmps12
        go_wp2_with (first
          | (go_at_call 22; refine (HC.out _).mono ?_; rintro e w1 ⟨rfl, hq⟩)
          | (go_at_call_of 23 (Value.string X); refine (allDigits_any _ hX _).mono ?_; rintro e w' ⟨rfl, rfl⟩)
          | (go_at_call_of 23 (Value.string Y); refine (allDigits_any _ hY _).mono ?_; rintro e w' ⟨rfl, rfl⟩))
        all_goals go_ret
        all_goals exact ⟨rfl, hq⟩

set_option maxHeartbeats 1000000 in
theorem valid_minus (s : ByteArray) (hs : s.size ≤ 2097152) (h0 : s.toList.isEmpty = false) (hp : 0 < s.size) (hc0 : ((s[0].toNat : Int) == 43) = false) (hc : ((s[0].toNat : Int) == 45) = true) (w : World) :
    Calls Try.prog 12 #[.string s] w fun e w' => e = .returned (.bool (validL s.data.toList)) ∧ Qt w w' := by
  have c4 : (1 : Int) ≤ ↑s.size := by omega
  obtain ⟨X, Y, f, HC0, hX, hY, hr⟩ := cut_dot (s.extract 1 s.size) (by simp; omega)
  have HC : Hid (∀ w, Calls Try.prog 22 #[.string (s.extract 1 s.size), .string ⟨#[46]⟩] w fun e w' => e = .returned (.tuple #[.string X, .string Y, .bool f]) ∧ Qt w w') := HC0
  clear HC0
  have hv : validL s.data.toList = (digs X.data.toList && (!f || digs Y.data.toList)) := by
    rw [hr]; unfold validL; rw [list_cons s hp, strip_sign (isSign_of (.inr hc))]
  rw [hv]
  clear hv hr
  cases f
  · cases hdx : digs X.data.toList
    · go_enter Try.func12, Try.ntmps12
      go_wp2_with (first
        | (go_at_call 22; refine (HC.out _).mono ?_; rintro e w1 ⟨rfl, hq⟩)
        | (go_at_call_of 23 (Value.string X); refine (allDigits_any _ hX _).mono ?_; rintro e w' ⟨rfl, rfl⟩)
        | (go_at_call_of 23 (Value.string Y); refine (allDigits_any _ hY _).mono ?_; rintro e w' ⟨rfl, rfl⟩))
      all_goals go_ret
      all_goals exact ⟨rfl, hq⟩
    · go_enter Try.func12, Try.ntmps12
      go_wp2_with (first
        | (go_at_call 22; refine (HC.out _).mono ?_; rintro e w1 ⟨rfl, hq⟩)
        | (go_at_call_of 23 (Value.string X); refine (allDigits_any _ hX _).mono ?_; rintro e w' ⟨rfl, rfl⟩)
        | (go_at_call_of 23 (Value.string Y); refine (allDigits_any _ hY _).mono ?_; rintro e w' ⟨rfl, rfl⟩))
      all_goals go_ret
      all_goals exact ⟨rfl, hq⟩
  · cases hdx : digs X.data.toList
    · go_enter Try.func12, Try.ntmps12
      go_wp2_with (first
        | (go_at_call 22; refine (HC.out _).mono ?_; rintro e w1 ⟨rfl, hq⟩)
        | (go_at_call_of 23 (Value.string X); refine (allDigits_any _ hX _).mono ?_; rintro e w' ⟨rfl, rfl⟩)
        | (go_at_call_of 23 (Value.string Y); refine (allDigits_any _ hY _).mono ?_; rintro e w' ⟨rfl, rfl⟩))
      all_goals go_ret
      all_goals exact ⟨rfl, hq⟩
    · cases hdy : digs Y.data.toList
      · go_enter Try.func12, Try.ntmps12
        go_wp2_with (first
          | (go_at_call 22; refine (HC.out _).mono ?_; rintro e w1 ⟨rfl, hq⟩)
          | (go_at_call_of 23 (Value.string X); refine (allDigits_any _ hX _).mono ?_; rintro e w' ⟨rfl, rfl⟩)
          | (go_at_call_of 23 (Value.string Y); refine (allDigits_any _ hY _).mono ?_; rintro e w' ⟨rfl, rfl⟩))
        all_goals go_ret
        all_goals exact ⟨rfl, hq⟩
      · go_enter Try.func12, Try.ntmps12
        go_wp2_with (first
          | (go_at_call 22; refine (HC.out _).mono ?_; rintro e w1 ⟨rfl, hq⟩)
          | (go_at_call_of 23 (Value.string X); refine (allDigits_any _ hX _).mono ?_; rintro e w' ⟨rfl, rfl⟩)
          | (go_at_call_of 23 (Value.string Y); refine (allDigits_any _ hY _).mono ?_; rintro e w' ⟨rfl, rfl⟩))
        all_goals go_ret
        all_goals exact ⟨rfl, hq⟩

set_option maxHeartbeats 1000000 in
theorem valid_bare (s : ByteArray) (hs : s.size ≤ 2097152) (h0 : s.toList.isEmpty = false) (hp : 0 < s.size) (hc0 : ((s[0].toNat : Int) == 43) = false) (hc : ((s[0].toNat : Int) == 45) = false) (w : World) :
    Calls Try.prog 12 #[.string s] w fun e w' => e = .returned (.bool (validL s.data.toList)) ∧ Qt w w' := by
  obtain ⟨X, Y, f, HC0, hX, hY, hr⟩ := cut_dot (s) (hs)
  have HC : Hid (∀ w, Calls Try.prog 22 #[.string (s), .string ⟨#[46]⟩] w fun e w' => e = .returned (.tuple #[.string X, .string Y, .bool f]) ∧ Qt w w') := HC0
  clear HC0
  have hv : validL s.data.toList = (digs X.data.toList && (!f || digs Y.data.toList)) := by
    rw [hr]; unfold validL; rw [list_cons s hp, strip_other (isSign_not hc0 hc)]
  rw [hv]
  clear hv hr
  cases f
  · cases hdx : digs X.data.toList
    · go_enter Try.func12, Try.ntmps12
      go_wp2_with (first
        | (go_at_call 22; refine (HC.out _).mono ?_; rintro e w1 ⟨rfl, hq⟩)
        | (go_at_call_of 23 (Value.string X); refine (allDigits_any _ hX _).mono ?_; rintro e w' ⟨rfl, rfl⟩)
        | (go_at_call_of 23 (Value.string Y); refine (allDigits_any _ hY _).mono ?_; rintro e w' ⟨rfl, rfl⟩))
      all_goals go_ret
      all_goals exact ⟨rfl, hq⟩
    · go_enter Try.func12, Try.ntmps12
      go_wp2_with (first
        | (go_at_call 22; refine (HC.out _).mono ?_; rintro e w1 ⟨rfl, hq⟩)
        | (go_at_call_of 23 (Value.string X); refine (allDigits_any _ hX _).mono ?_; rintro e w' ⟨rfl, rfl⟩)
        | (go_at_call_of 23 (Value.string Y); refine (allDigits_any _ hY _).mono ?_; rintro e w' ⟨rfl, rfl⟩))
      all_goals go_ret
      all_goals exact ⟨rfl, hq⟩
  · cases hdx : digs X.data.toList
    · go_enter Try.func12, Try.ntmps12
      go_wp2_with (first
        | (go_at_call 22; refine (HC.out _).mono ?_; rintro e w1 ⟨rfl, hq⟩)
        | (go_at_call_of 23 (Value.string X); refine (allDigits_any _ hX _).mono ?_; rintro e w' ⟨rfl, rfl⟩)
        | (go_at_call_of 23 (Value.string Y); refine (allDigits_any _ hY _).mono ?_; rintro e w' ⟨rfl, rfl⟩))
      all_goals go_ret
      all_goals exact ⟨rfl, hq⟩
    · cases hdy : digs Y.data.toList
      · go_enter Try.func12, Try.ntmps12
        go_wp2_with (first
          | (go_at_call 22; refine (HC.out _).mono ?_; rintro e w1 ⟨rfl, hq⟩)
          | (go_at_call_of 23 (Value.string X); refine (allDigits_any _ hX _).mono ?_; rintro e w' ⟨rfl, rfl⟩)
          | (go_at_call_of 23 (Value.string Y); refine (allDigits_any _ hY _).mono ?_; rintro e w' ⟨rfl, rfl⟩))
        all_goals go_ret
        all_goals exact ⟨rfl, hq⟩
      · go_enter Try.func12, Try.ntmps12
        go_wp2_with (first
          | (go_at_call 22; refine (HC.out _).mono ?_; rintro e w1 ⟨rfl, hq⟩)
          | (go_at_call_of 23 (Value.string X); refine (allDigits_any _ hX _).mono ?_; rintro e w' ⟨rfl, rfl⟩)
          | (go_at_call_of 23 (Value.string Y); refine (allDigits_any _ hY _).mono ?_; rintro e w' ⟨rfl, rfl⟩))
        all_goals go_ret
        all_goals exact ⟨rfl, hq⟩

/-- Valid answers 'validL'. -/
theorem valid_any (s : ByteArray) (hs : s.size ≤ 2097152) (w : World) :
    Calls Try.prog 12 #[.string s] w fun e w' => e = .returned (.bool (validL s.data.toList)) ∧ Qt w w' := by
  cases h0 : s.toList.isEmpty
  · have hp := nonempty_size h0
    cases h1 : ((s[0].toNat : Int) == 43)
    · cases h2 : ((s[0].toNat : Int) == 45)
      · exact valid_bare s hs h0 hp h1 h2 w
      · exact valid_minus s hs h0 hp h1 h2 w
    · exact valid_plus s hs h0 hp h1 w
  · exact valid_empty s hs h0 w

end Go.Proofs.Qxb6000513a
