/-
  THE WALK of FnSplitReferenceInvertsJoin.
-/
import Derived.Test.Qxb6000104aSplit
import Derived.Test.Qxb6000104aHas
namespace Go.Proofs.Qxb6000104a
open Go.RowKit

theorem zzSplit_at (s a b : ByteArray) (h : splitP s = (a, b)) (hs : s.size ≤ 2097152) (w : World) :
    Calls Try.prog 10 #[.string s] w fun e w' => e = .returned (.tuple #[.string a, .string b]) ∧ Qt w w' := by
  have := zzSplit s hs w
  rw [h] at this
  exact this

set_option maxHeartbeats 400000 in
theorem bytes12_no (r t d : ByteArray) (hr : r.size ≤ maxLen) (ht : t.size ≤ maxLen) (hd : d.size ≤ maxLen) (hbig : ¬ r.size + t.size + d.size ≤ 1048576) (w : World) :
    Calls Try.prog 12 #[.string r, .string t, .string d] w fun e w' => e = .returned (.bool false) ∧ w' = w := by
  unfold maxLen at hr ht hd
  go_enter Try.func12, Try.ntmps12
  go_wp2
  all_goals first | (go_ret; exact ⟨rfl, rfl⟩) | (exfalso; omega)

set_option maxHeartbeats 400000 in
theorem bytes12_yes (r t d : ByteArray) (hbig : r.size + t.size + d.size ≤ 1048576) (w : World) :
    Calls Try.prog 12 #[.string r, .string t, .string d] w fun e w' => e = .returned (.bool true) ∧ w' = w := by
  go_enter Try.func12, Try.ntmps12
  go_wp2
  all_goals first | (go_ret; exact ⟨rfl, rfl⟩) | (exfalso; omega)

theorem one_size (c : UInt8) : (⟨#[c]⟩ : ByteArray).size = 1 := rfl

set_option maxHeartbeats 400000 in
theorem invert_walk (r t d : ByteArray) (hbig : r.size + t.size + d.size ≤ 1048576)
    (h1 : hasB r 64 = false) (h2 : hasB t 64 = false) (h3 : hasB t 58 = false) (h4 : hasB t 47 = false) (w : World) :
    Calls Try.prog 4 #[.string r, .string t, .string d] w fun e w' => e = .returned (.bool true) ∧ Qt w w' := by
  have E1 : Hid (splitP (r ++ ⟨#[58]⟩ ++ t) = (r, t)) := split_one r t h1 h2 h3 h4
  have E2 : Hid (splitP (r ++ ⟨#[58]⟩ ++ t ++ ⟨#[64]⟩ ++ d) = (r, d)) := split_two r t d h1 h2 h3 h4
  have E3 : Hid (splitP (r ++ ⟨#[64]⟩ ++ d) = ((splitP r).1, d)) := split_three r d h1
  have z1 : (r ++ ⟨#[58]⟩ ++ t : ByteArray).size ≤ 2097152 := by simp only [ByteArray.size_append, one_size]; omega
  have z2 : (r ++ ⟨#[58]⟩ ++ t ++ ⟨#[64]⟩ ++ d : ByteArray).size ≤ 2097152 := by simp only [ByteArray.size_append, one_size]; omega
  have z3 : (r ++ ⟨#[64]⟩ ++ d : ByteArray).size ≤ 2097152 := by simp only [ByteArray.size_append, one_size]; omega
  have zr : r.size ≤ 2097152 := by omega
  have zt : t.size ≤ 2097152 := by omega
  go_enter Try.func4, Try.ntmps4
  go_wp2_with (first
      | (go_at_call 12; refine (bytes12_yes _ _ _ hbig _).mono ?_; rintro e w' ⟨rfl, rfl⟩)
      | (go_at_call_of 13 (Value.string r); refine (hasByte_any _ _ zr _).mono ?_; rintro e w' ⟨rfl, rfl⟩)
      | (go_at_call_of 13 (Value.string t); refine (hasByte_any _ _ zt _).mono ?_; rintro e w' ⟨rfl, rfl⟩)
      | (go_at_call_of 10 (Value.string (r ++ (⟨#[58]⟩ : ByteArray) ++ t)); refine (zzSplit_at _ _ _ E1.out z1 _).mono ?_; rintro e w1 ⟨rfl, hq1⟩)
      | (go_at_call_of 10 (Value.string (r ++ (⟨#[58]⟩ : ByteArray) ++ t ++ (⟨#[64]⟩ : ByteArray) ++ d)); refine (zzSplit_at _ _ _ E2.out z2 _).mono ?_; rintro e w2 ⟨rfl, hq2⟩)
      | (go_at_call_of 10 (Value.string r); refine (zzSplit _ zr _).mono ?_; rintro e w3 ⟨rfl, hq3⟩)
      | (go_at_call_of 10 (Value.string (r ++ (⟨#[64]⟩ : ByteArray) ++ d)); refine (zzSplit_at _ _ _ E3.out z3 _).mono ?_; rintro e w4 ⟨rfl, hq4⟩))
  go_ret
  exact ⟨rfl, ((hq1.trans hq2).trans hq3).trans hq4⟩

/-- FnSplitReferenceInvertsJoin returns true. -/
theorem invert_any (r t d : ByteArray) (hr : r.size ≤ maxLen) (ht : t.size ≤ maxLen) (hd : d.size ≤ maxLen) (w : World) :
    Calls Try.prog 4 #[.string r, .string t, .string d] w fun e w' => e = .returned (.bool true) ∧ Qt w w' := by
  by_cases hbig : r.size + t.size + d.size ≤ 1048576
  · have zr : r.size ≤ 2097152 := by omega
    have zt : t.size ≤ 2097152 := by omega
    cases h1 : hasB r 64
    · cases h2 : hasB t 64
      · cases h3 : hasB t 58
        · cases h4 : hasB t 47
          · exact invert_walk r t d hbig h1 h2 h3 h4 w
          · go_enter Try.func4, Try.ntmps4
            go_wp2_with (first
              | (go_at_call 12; refine (bytes12_yes _ _ _ hbig _).mono ?_; rintro e w' ⟨rfl, rfl⟩)
              | (go_at_call_of 13 (Value.string r); refine (hasByte_any _ _ zr _).mono ?_; rintro e w' ⟨rfl, rfl⟩)
              | (go_at_call_of 13 (Value.string t); refine (hasByte_any _ _ zt _).mono ?_; rintro e w' ⟨rfl, rfl⟩))
            go_ret
            exact ⟨rfl, Qt.refl _⟩
        · go_enter Try.func4, Try.ntmps4
          go_wp2_with (first
            | (go_at_call 12; refine (bytes12_yes _ _ _ hbig _).mono ?_; rintro e w' ⟨rfl, rfl⟩)
            | (go_at_call_of 13 (Value.string r); refine (hasByte_any _ _ zr _).mono ?_; rintro e w' ⟨rfl, rfl⟩)
            | (go_at_call_of 13 (Value.string t); refine (hasByte_any _ _ zt _).mono ?_; rintro e w' ⟨rfl, rfl⟩))
          go_ret
          exact ⟨rfl, Qt.refl _⟩
      · go_enter Try.func4, Try.ntmps4
        go_wp2_with (first
          | (go_at_call 12; refine (bytes12_yes _ _ _ hbig _).mono ?_; rintro e w' ⟨rfl, rfl⟩)
          | (go_at_call_of 13 (Value.string r); refine (hasByte_any _ _ zr _).mono ?_; rintro e w' ⟨rfl, rfl⟩)
          | (go_at_call_of 13 (Value.string t); refine (hasByte_any _ _ zt _).mono ?_; rintro e w' ⟨rfl, rfl⟩))
        go_ret
        exact ⟨rfl, Qt.refl _⟩
    · go_enter Try.func4, Try.ntmps4
      go_wp2_with (first
        | (go_at_call 12; refine (bytes12_yes _ _ _ hbig _).mono ?_; rintro e w' ⟨rfl, rfl⟩)
        | (go_at_call_of 13 (Value.string r); refine (hasByte_any _ _ zr _).mono ?_; rintro e w' ⟨rfl, rfl⟩)
        | (go_at_call_of 13 (Value.string t); refine (hasByte_any _ _ zt _).mono ?_; rintro e w' ⟨rfl, rfl⟩))
      go_ret
      exact ⟨rfl, Qt.refl _⟩
  · go_enter Try.func4, Try.ntmps4
    go_wp2_with (go_at_call 12; refine (bytes12_no _ _ _ hr ht hd hbig _).mono ?_; rintro e w' ⟨rfl, rfl⟩)
    go_ret
    exact ⟨rfl, Qt.refl _⟩

end Go.Proofs.Qxb6000104a
