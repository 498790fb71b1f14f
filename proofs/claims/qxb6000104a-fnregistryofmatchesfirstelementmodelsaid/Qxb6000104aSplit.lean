/-
  THE WALK of splitReference and of the model zzModelSplit: both answer 'splitP'.
-/
import Derived.Test.Qxb6000104aLib
import Derived.Test.Qxb6000104aPlain
import Derived.Deep.RegionWith
import Derived.Deep.Draws
namespace Go.Proofs.Qxb6000104a
open Go.RowKit

/-- w' is w but for the count of draws. -/
def Qt (w w' : World) : Prop := ∃ n, w' = w.drewN n

theorem Qt.refl (w : World) : Qt w w := ⟨0, rfl⟩
theorem Qt.drew {w w' : World} (h : Qt w w') : Qt w w'.drew := by obtain ⟨n, rfl⟩ := h; exact ⟨n + 1, rfl⟩
theorem Qt.trans {a b c : World} (h : Qt a b) (k : Qt b c) : Qt a c := by
  obtain ⟨n, rfl⟩ := h; obtain ⟨m, rfl⟩ := k
  exact ⟨n + m, by simp [World.drewN, Nat.add_assoc]⟩
theorem Qt.grown {w w' : World} (h : Qt w w') : Grown w w' := by
  obtain ⟨n, rfl⟩ := h; exact (Grown.refl w : Grown w w)

theorem lastColon (s : ByteArray) (hs : s.size ≤ 2097152) (w : World) :
    Calls Try.prog 29 #[.string s, .string ⟨#[58]⟩] w fun e w' => e = .returned (.int .i64 (Lib.lastIndexByte s 58)) ∧ w' = w :=
  lastIndex_one s ⟨#[58]⟩ rfl hs w

theorem lastSlash (s : ByteArray) (hs : s.size ≤ 2097152) (w : World) :
    Calls Try.prog 29 #[.string s, .string ⟨#[47]⟩] w fun e w' => e = .returned (.int .i64 (Lib.lastIndexByte s 47)) ∧ w' = w :=
  lastIndex_one s ⟨#[47]⟩ rfl hs w

theorem cutAt_miss (s : ByteArray) (hm : Lib.indexByte s.data.toList 64 = -1) (w : World) :
    Calls Try.prog 28 #[.string s, .string ⟨#[64]⟩] w fun e w' => e = .returned (.tuple #[.string s, .string ByteArray.empty, .bool false]) ∧ w' = w :=
  cut_miss s ⟨#[64]⟩ rfl hm w

theorem cutAt_hit (s : ByteArray) (p : Nat) (hm : Lib.indexByte s.data.toList 64 = p) (hp : p < s.size) (hs : s.size ≤ 2097152) (w : World) :
    Calls Try.prog 28 #[.string s, .string ⟨#[64]⟩] w fun e w' => e = .returned (.tuple #[.string (s.extract 0 p), .string (s.extract (p + 1) s.size), .bool true]) ∧ w' = w.drew :=
  cut_hit s ⟨#[64]⟩ rfl p hm hp hs w

set_option maxHeartbeats 400000 in
theorem split_miss (s : ByteArray) (hs : s.size ≤ 2097152) (hm : Lib.indexByte s.data.toList 64 = -1) (w : World) :
    Calls Try.prog 25 #[.string s] w fun e w' => e = .returned (.tuple #[.string (tagP s).1, .string (tagP s).2]) ∧ Qt w w' := by
  have HM : Hid (Lib.indexByte s.data.toList 64 = -1) := hm
  clear hm
  have b1 := last_bd s 58
  have b2 := last_bd s 47
  by_cases t : Lib.lastIndexByte s 47 < Lib.lastIndexByte s 58
  · obtain ⟨a, ha⟩ : ∃ a : Nat, Lib.lastIndexByte s 58 = a := ⟨(Lib.lastIndexByte s 58).toNat, by omega⟩
    rw [ha] at t b1
    rw [tagP_yes ha t]
    have c1 : (0 : Int) ≤ ↑a := by omega
    have c2 : (↑a : Int) ≤ ↑s.size := by omega
    have c3 : (0 : Int) ≤ ↑a + 1 := by omega
    have c4 : (↑a + 1 : Int) ≤ ↑s.size := by omega
    go_enter Try.func25, Try.ntmps25
    go_wp2_with (first
      | (go_at_call 28; refine (cutAt_miss _ HM.out _).mono ?_; rintro e w' ⟨rfl, rfl⟩)
      | (go_at_call_of 29 (Value.string ⟨#[58]⟩); refine (lastColon _ hs _).mono ?_; rintro e w' ⟨rfl, rfl⟩)
      | (go_at_call_of 29 (Value.string ⟨#[47]⟩); refine (lastSlash _ hs _).mono ?_; rintro e w' ⟨rfl, rfl⟩))
    go_region
    go_wp2
    go_ret2
    exact ⟨rfl, (Qt.refl _).drew⟩
  · rw [tagP_no t]
    go_enter Try.func25, Try.ntmps25
    go_wp2_with (first
      | (go_at_call 28; refine (cutAt_miss _ HM.out _).mono ?_; rintro e w' ⟨rfl, rfl⟩)
      | (go_at_call_of 29 (Value.string ⟨#[58]⟩); refine (lastColon _ hs _).mono ?_; rintro e w' ⟨rfl, rfl⟩)
      | (go_at_call_of 29 (Value.string ⟨#[47]⟩); refine (lastSlash _ hs _).mono ?_; rintro e w' ⟨rfl, rfl⟩))
    go_ret2
    exact ⟨rfl, (Qt.refl _)⟩

set_option maxHeartbeats 400000 in
theorem split_core (s B D : ByteArray) (hs : B.size ≤ 2097152)
    (HC : Hid (∀ w, Calls Try.prog 28 #[.string s, .string ⟨#[64]⟩] w fun e w' => e = .returned (.tuple #[.string B, .string D, .bool true]) ∧ w' = w.drew)) (w : World) :
    Calls Try.prog 25 #[.string s] w fun e w' => e = .returned (.tuple #[.string (tagP B).1, .string D]) ∧ Qt w w' := by
  have b1 := last_bd B 58
  have b2 := last_bd B 47
  by_cases t : Lib.lastIndexByte B 47 < Lib.lastIndexByte B 58
  · obtain ⟨a, ha⟩ : ∃ a : Nat, Lib.lastIndexByte B 58 = a := ⟨(Lib.lastIndexByte B 58).toNat, by omega⟩
    rw [ha] at t b1
    rw [tagP_yes ha t]
    have c1 : (0 : Int) ≤ ↑a := by omega
    have c2 : (↑a : Int) ≤ ↑B.size := by omega
    have c3 : (0 : Int) ≤ ↑a + 1 := by omega
    have c4 : (↑a + 1 : Int) ≤ ↑B.size := by omega
    go_enter Try.func25, Try.ntmps25
    go_wp2_with (first
      | (go_at_call 28; refine (HC.out _).mono ?_; rintro e w' ⟨rfl, rfl⟩)
      | (go_at_call_of 29 (Value.string ⟨#[58]⟩); refine (lastColon _ hs _).mono ?_; rintro e w' ⟨rfl, rfl⟩)
      | (go_at_call_of 29 (Value.string ⟨#[47]⟩); refine (lastSlash _ hs _).mono ?_; rintro e w' ⟨rfl, rfl⟩))
    go_region
    go_wp2
    go_ret2
    exact ⟨rfl, (Qt.refl _).drew.drew⟩
  · rw [tagP_no t]
    go_enter Try.func25, Try.ntmps25
    go_wp2_with (first
      | (go_at_call 28; refine (HC.out _).mono ?_; rintro e w' ⟨rfl, rfl⟩)
      | (go_at_call_of 29 (Value.string ⟨#[58]⟩); refine (lastColon _ hs _).mono ?_; rintro e w' ⟨rfl, rfl⟩)
      | (go_at_call_of 29 (Value.string ⟨#[47]⟩); refine (lastSlash _ hs _).mono ?_; rintro e w' ⟨rfl, rfl⟩))
    go_ret2
    exact ⟨rfl, (Qt.refl _).drew⟩

/-- splitReference answers 'splitP'. -/
theorem split_any (s : ByteArray) (hs : s.size ≤ 2097152) (w : World) :
    Calls Try.prog 25 #[.string s] w fun e w' => e = .returned (.tuple #[.string (splitP s).1, .string (splitP s).2]) ∧ Qt w w' := by
  rcases indexByte_spec s.data.toList 64 with ⟨h, _⟩ | ⟨p, h, hp, _, _⟩
  · rw [splitP_miss h]; exact split_miss s hs h w
  · rw [splitP_hit h]
    rw [← Lib.size_eq] at hp
    exact split_core s _ _ (by rw [size_extract _ _ (by omega)]; omega) (fun w => cutAt_hit s p h hp hs w) w

theorem zzSplit (s : ByteArray) (hs : s.size ≤ 2097152) (w : World) :
    Calls Try.prog 10 #[.string s] w fun e w' => e = .returned (.tuple #[.string (splitP s).1, .string (splitP s).2]) ∧ Qt w w' := by
  go_enter Try.func10, Try.ntmps10
  go_wp2_with (go_at_call 25; refine (split_any _ hs _).mono ?_; rintro e w' ⟨rfl, hq⟩)
  go_ret2
  exact ⟨rfl, hq⟩

end Go.Proofs.Qxb6000104a
