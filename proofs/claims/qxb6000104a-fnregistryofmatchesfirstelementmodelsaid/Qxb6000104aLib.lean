/-
  CONTRACTS of the library functions on the road of seat b6000104a, at a one-byte separator.
-/
import Derived.Test.Qxb6000104aRows
import Derived.WalkKit
import Derived.WalkSpells
import Derived.Lib.Bytealg
import Derived.Lib.LastIndexByte
import Derived.Lib.Strings
import Derived.Deep.QuietTactic
import Derived.BigQuiet
namespace Go.Proofs.Qxb6000104a
open Go.RowKit

set_option maxHeartbeats 400000 in
theorem slIndexByte (s : ByteArray) (c : Int) (w : World) :
    Calls Try.prog 41 #[.string s, .int .u8 c] w fun e w' => e = .returned (.int .i64 (Lib.indexByte s.data.toList c.toNat.toUInt8)) ∧ w' = w := by
  go_enter Try.func41, Try.ntmps41
  go_wp2
  rw [run_callFunc_extern Try.func47 (by kernel_rfl) (by kernel_rfl) (by kernel_rfl) (e := Extern.BytealgIndexByte.indexByte) (by kernel_rfl), Lib.run_indexByteString]
  simp only [Result.andThen]
  rw [Oper.upon_value]
  go_wp2
  go_ret
  exact ⟨rfl, rfl⟩

/-- The index of a byte in a one-byte text: 0. -/
theorem indexByte_self (c : UInt8) : Lib.indexByte [c] c = 0 := by simp [Lib.indexByte]

theorem one_of_size {sub : ByteArray} (h1 : sub.size = 1) : sub.data.toList = [sub[0]'(by omega)] := by
  have hl : sub.data.toList.length = 1 := by rw [← Lib.size_eq]; exact h1
  obtain ⟨x, hx⟩ := List.length_eq_one_iff.1 hl
  have : sub[0]'(by omega) = x := by
    show sub.data[0]'_ = x
    have e : sub.data.toList[0]'(by omega) = x := by simp [hx]
    simpa using e
  rw [hx, this]

set_option maxHeartbeats 400000 in
theorem slIndex (s sub : ByteArray) (h1 : sub.size = 1) (w : World) :
    Calls Try.prog 35 #[.string s, .string sub] w fun e w' => e = .returned (.int .i64 (Lib.indexByte s.data.toList (sub[0]'(by omega)))) ∧ w' = w := by
  by_cases heq : (sub.toList == s.toList) = true
  · have e : Lib.indexByte s.data.toList (sub[0]'(by omega)) = 0 := by
      have : sub.data.toList = s.data.toList := by rw [← Lib.toList_data, ← Lib.toList_data]; simpa using heq
      rw [← this, one_of_size h1, indexByte_self]
    go_enter Try.func35, Try.ntmps35
    go_wp2
    go_ret
    rw [e]; exact ⟨rfl, rfl⟩
  · have heq' : (sub.toList == s.toList) = false := by simpa using heq
    clear heq
    go_enter Try.func35, Try.ntmps35
    go_wp2_with (go_at_call 41; refine (slIndexByte _ _ _).mono ?_; rintro e w' ⟨rfl, rfl⟩)
    go_ret
    exact ⟨rfl, rfl⟩

/-- What 'indexByte' is: -1 and the byte stands nowhere; or the first place at which it stands. -/
theorem indexByte_spec (l : List UInt8) (c : UInt8) :
    (Lib.indexByte l c = -1 ∧ c ∉ l) ∨ (∃ p : Nat, Lib.indexByte l c = p ∧ p < l.length ∧ l[p]? = some c ∧ ∀ i, i < p → l[i]? ≠ some c) := by
  induction l with
  | nil => left; exact ⟨rfl, by simp⟩
  | cons b l ih =>
    unfold Lib.indexByte
    by_cases h : b = c
    · right; subst h; exact ⟨0, by simp, by simp, by simp, by simp⟩
    · have h' : (b == c) = false := by simpa using h
      rcases ih with ⟨e, hn⟩ | ⟨p, e, hp, hat, hbe⟩
      · left; rw [h', e]; exact ⟨by simp, by simp [hn, Ne.symm h]⟩
      · right; rw [h', e]
        have : ((p : Int) == -1) = false := by simp
        rw [this]
        refine ⟨p + 1, by simp, by simp [hp], by simpa using hat, ?_⟩
        intro i hi
        cases i with
        | zero => simpa using h
        | succ i => simpa using hbe i (by omega)

set_option maxHeartbeats 400000 in
theorem slCut_miss (s sub : ByteArray) (h1 : sub.size = 1) (hm : Lib.indexByte s.data.toList (sub[0]'(by omega)) = -1) (w : World) :
    Calls Try.prog 31 #[.string s, .string sub] w fun e w' => e = .returned (.tuple #[.string s, .string ByteArray.empty, .bool false]) ∧ w' = w := by
  go_enter Try.func31, Try.ntmps31
  go_wp2_with (go_at_call 35; refine (slIndex _ _ h1 _).mono ?_; rintro e w' ⟨rfl, rfl⟩)
  go_ret3
  exact ⟨rfl, rfl⟩

set_option maxHeartbeats 400000 in
theorem slCut_hit (s sub : ByteArray) (h1 : sub.size = 1) (p : Nat) (hm : Lib.indexByte s.data.toList (sub[0]'(by omega)) = p) (hp : p < s.size) (hs : s.size ≤ 2097152) (w : World) :
    Calls Try.prog 31 #[.string s, .string sub] w fun e w' => e = .returned (.tuple #[.string (s.extract 0 p), .string (s.extract (p + 1) s.size), .bool true]) ∧ w' = w.drew := by
  have c1 : (0 : Int) ≤ ↑p := by omega
  have c2 : (↑p : Int) ≤ ↑s.size := by omega
  have c3 : (0 : Int) ≤ ↑p + 1 := by omega
  have c4 : (↑p + 1 : Int) ≤ ↑s.size := by omega
  go_enter Try.func31, Try.ntmps31
  go_wp2_with (go_at_call 35; refine (slIndex _ _ h1 _).mono ?_; rintro e w' ⟨rfl, rfl⟩)
  go_region
  go_wp2
  go_ret3
  exact ⟨rfl, rfl⟩

theorem cut_miss (s sub : ByteArray) (h1 : sub.size = 1) (hm : Lib.indexByte s.data.toList (sub[0]'(by omega)) = -1) (w : World) :
    Calls Try.prog 28 #[.string s, .string sub] w fun e w' => e = .returned (.tuple #[.string s, .string ByteArray.empty, .bool false]) ∧ w' = w := by
  go_enter Try.func28, Try.ntmps28
  go_wp2_with (go_at_call 31; refine (slCut_miss _ _ h1 hm _).mono ?_; rintro e w' ⟨rfl, rfl⟩)
  go_ret3
  exact ⟨rfl, rfl⟩

theorem cut_hit (s sub : ByteArray) (h1 : sub.size = 1) (p : Nat) (hm : Lib.indexByte s.data.toList (sub[0]'(by omega)) = p) (hp : p < s.size) (hs : s.size ≤ 2097152) (w : World) :
    Calls Try.prog 28 #[.string s, .string sub] w fun e w' => e = .returned (.tuple #[.string (s.extract 0 p), .string (s.extract (p + 1) s.size), .bool true]) ∧ w' = w.drew := by
  have H : Hid (Lib.indexByte s.data.toList (sub[0]'(by omega)) = p) := hm
  clear hm
  go_enter Try.func28, Try.ntmps28
  go_wp2_with (go_at_call 31; refine (slCut_hit _ _ h1 p H.out hp hs _).mono ?_; rintro e w' ⟨rfl, rfl⟩)
  go_ret3
  exact ⟨rfl, rfl⟩

theorem byteBang (s : ByteArray) (j : Nat) (hj : j < s.size) : s.data[j]! = s[j] := by
  rw [getElem!_pos s.data j (by simpa using hj)]; rfl

set_option maxHeartbeats 400000 in
theorem lastIndexByteString (s : ByteArray) (c : Int) (hs : s.size ≤ 2097152) (w : World) :
    Calls Try.prog 32 #[.string s, .int .u8 c] w fun e w' => e = .returned (.int .i64 (Lib.lastIndexByte s c)) ∧ w' = w := by
  go_enter Try.func32, Try.ntmps32
  go_wp2
  go_loop [5] (fun vi => ∃ k : Nat, k ≤ s.size ∧ vi = .int .i64 ((k : Int) - 1) ∧ Hid (Lib.lastIndexByte s c = Lib.lastIdx s c k)) (fun vi => ((RowKit.intOf vi) + 1).toNat)
  case atStart => exact ⟨s.size, Nat.le_refl _, by first | rfl | go_num | (congr 1; omega), rfl⟩
  case round =>
    obtain ⟨k, hk, rfl, hh⟩ := hrel
    go_wp2
    · -- s[i] == c: 'return i'
      have hc : (((s[k - 1]).toNat : Int) == c) = true := by assumption
      have k1 : 1 ≤ k := by omega
      have e1 : Lib.lastIdx s c k = ((k - 1 : Nat) : Int) := by
        have := Lib.lastIdx_hit s c (k - 1) (by rw [byteBang s (k - 1) (by omega)]; simpa using hc)
        rwa [show k - 1 + 1 = k by omega] at this
      have e2 : ((k - 1 : Nat) : Int) = (k : Int) - 1 := by omega
      go_ret
      rw [hh.out, e1, e2]
      exact ⟨rfl, rfl⟩
    · -- s[i] != c: 'i--'
      have hc : (((s[k - 1]).toNat : Int) == c) = false := by assumption
      have k1 : 1 ≤ k := by omega
      have e1 : Lib.lastIdx s c k = Lib.lastIdx s c (k - 1) := by
        have := Lib.lastIdx_miss s c (k - 1) (by rw [byteBang s (k - 1) (by omega)]; simpa using hc)
        rwa [show k - 1 + 1 = k by omega] at this
      refine ⟨⟨k - 1, by omega, by congr 1; omega, hh.out.trans e1⟩, ?_⟩
      simp [RowKit.intOf]; omega
    · -- i < 0: 'return -1'
      have k0 : k = 0 := by omega
      subst k0
      go_ret
      rw [hh.out]
      exact ⟨rfl, rfl⟩

set_option maxHeartbeats 400000 in
theorem lastIndex_one (s sub : ByteArray) (h1 : sub.size = 1) (hs : s.size ≤ 2097152) (w : World) :
    Calls Try.prog 29 #[.string s, .string sub] w fun e w' => e = .returned (.int .i64 (Lib.lastIndexByte s ((sub[0]'(by omega)).toNat : Int))) ∧ w' = w := by
  go_enter Try.func29, Try.ntmps29
  go_wp2_with (go_at_call 32; refine (lastIndexByteString _ _ hs _).mono ?_; rintro e w' ⟨rfl, rfl⟩)
  go_ret
  exact ⟨rfl, rfl⟩

end Go.Proofs.Qxb6000104a
