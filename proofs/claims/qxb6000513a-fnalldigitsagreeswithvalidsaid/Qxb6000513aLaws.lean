/-
  THE WALKS of the law FnValidPointJoin (seat b6000513a).
-/
import Derived.Test.Qxb6000513aValid
namespace Go.Proofs.Qxb6000513a
open Go.RowKit

theorem valid_at (s : ByteArray) (b : Bool) (h : validL s.data.toList = b) (hs : s.size ≤ 2097152) (w : World) :
    Calls Try.prog 12 #[.string s] w fun e w' => e = .returned (.bool b) ∧ Qt w w' := by
  subst h; exact valid_any s hs w

theorem one_size (c : UInt8) : (⟨#[c]⟩ : ByteArray).size = 1 := rfl
theorem toList_join2 (a b : ByteArray) : (a ++ b).data.toList = a.data.toList ++ b.data.toList := by simp

set_option maxHeartbeats 400000 in
theorem bytes16_no (a b : ByteArray) (ha : a.size ≤ maxLen) (hb : b.size ≤ maxLen) (hbig : ¬ a.size + b.size ≤ 1048576) (w : World) :
    Calls Try.prog 16 #[.string a, .string b] w fun e w' => e = .returned (.bool false) ∧ w' = w := by
  unfold maxLen at ha hb
  go_enter Try.func16, Try.ntmps16
  go_wp2
  all_goals first | (go_ret; exact ⟨rfl, rfl⟩) | (exfalso; omega)

set_option maxHeartbeats 400000 in
theorem bytes16_yes (a b : ByteArray) (hbig : a.size + b.size ≤ 1048576) (w : World) :
    Calls Try.prog 16 #[.string a, .string b] w fun e w' => e = .returned (.bool true) ∧ w' = w := by
  go_enter Try.func16, Try.ntmps16
  go_wp2
  all_goals first | (go_ret; exact ⟨rfl, rfl⟩) | (exfalso; omega)

set_option maxHeartbeats 1000000 in
theorem pointJoin_walk (a b : ByteArray) (hbig : a.size + b.size ≤ 1048576) (ha : a.size ≤ 524288) (hb : b.size ≤ 524288) (w : World) :
    Calls Try.prog 5 #[.string a, .string b] w fun e w' => e = .returned (.bool true) ∧ Qt w w' := by
  have E1 : Hid (validL ((⟨#[45]⟩ : ByteArray) ++ a ++ (⟨#[46]⟩ : ByteArray) ++ b).data.toList = (digs a.data.toList && digs b.data.toList)) := by
    show validL _ = _
    rw [← valid_join, toList_join2, toList_join2, toList_join2]; simp
  have E2 : Hid (validL (a ++ (⟨#[46]⟩ : ByteArray)).data.toList = false) := by
    show validL _ = _
    rw [toList_join2]; exact valid_end _
  have E3 : Hid (validL ((⟨#[46]⟩ : ByteArray) ++ b).data.toList = false) := by
    show validL _ = _
    rw [toList_join2]; exact valid_start _
  have z1 : ((⟨#[45]⟩ : ByteArray) ++ a ++ (⟨#[46]⟩ : ByteArray) ++ b).size ≤ 2097152 := by simp only [ByteArray.size_append, one_size]; omega
  have z2 : (a ++ (⟨#[46]⟩ : ByteArray)).size ≤ 2097152 := by simp only [ByteArray.size_append, one_size]; omega
  have z3 : ((⟨#[46]⟩ : ByteArray) ++ b).size ≤ 2097152 := by simp only [ByteArray.size_append, one_size]; omega
  have za : a.size ≤ 2097152 := by omega
  have zb : b.size ≤ 2097152 := by omega
  cases hda : digs a.data.toList <;> cases hdb : digs b.data.toList <;> rw [hda, hdb] at E1
  all_goals
    go_enter Try.func5, Try.ntmps5
    go_wp2_with (first
      | (go_at_call 16; refine (bytes16_yes _ _ hbig _).mono ?_; rintro e w' ⟨rfl, rfl⟩)
      | (go_at_call_of 12 (Value.string ((⟨#[45]⟩ : ByteArray) ++ a ++ (⟨#[46]⟩ : ByteArray) ++ b)); refine (valid_at _ _ E1.out z1 _).mono ?_; rintro e w1 ⟨rfl, hq1⟩)
      | (go_at_call_of 12 (Value.string (a ++ (⟨#[46]⟩ : ByteArray))); refine (valid_at _ _ E2.out z2 _).mono ?_; rintro e w2 ⟨rfl, hq2⟩)
      | (go_at_call_of 12 (Value.string ((⟨#[46]⟩ : ByteArray) ++ b)); refine (valid_at _ _ E3.out z3 _).mono ?_; rintro e w3 ⟨rfl, hq3⟩)
      | (go_at_call_of 17 (Value.string a); refine (zzAllDigits _ za _).mono ?_; rintro e w' ⟨rfl, rfl⟩)
      | (go_at_call_of 17 (Value.string b); refine (zzAllDigits _ zb _).mono ?_; rintro e w' ⟨rfl, rfl⟩))
    go_ret
    exact ⟨rfl, (hq1.trans hq2).trans hq3⟩

/-- FnValidPointJoin returns true. -/
theorem pointJoin_any (a b : ByteArray) (ha : a.size ≤ maxLen) (hb : b.size ≤ maxLen) (w : World) :
    Calls Try.prog 5 #[.string a, .string b] w fun e w' => e = .returned (.bool true) ∧ Qt w w' := by
  by_cases hbig : a.size + b.size ≤ 1048576
  · by_cases h1 : a.size ≤ 524288
    · by_cases h2 : b.size ≤ 524288
      · exact pointJoin_walk a b hbig h1 h2 w
      · go_enter Try.func5, Try.ntmps5
        go_wp2_with (go_at_call 16; refine (bytes16_yes _ _ hbig _).mono ?_; rintro e w' ⟨rfl, rfl⟩)
        go_ret
        exact ⟨rfl, Qt.refl _⟩
    · go_enter Try.func5, Try.ntmps5
      go_wp2_with (go_at_call 16; refine (bytes16_yes _ _ hbig _).mono ?_; rintro e w' ⟨rfl, rfl⟩)
      go_ret
      exact ⟨rfl, Qt.refl _⟩
  · go_enter Try.func5, Try.ntmps5
    go_wp2_with (go_at_call 16; refine (bytes16_no _ _ ha hb hbig _).mono ?_; rintro e w' ⟨rfl, rfl⟩)
    go_ret
    exact ⟨rfl, Qt.refl _⟩

end Go.Proofs.Qxb6000513a
