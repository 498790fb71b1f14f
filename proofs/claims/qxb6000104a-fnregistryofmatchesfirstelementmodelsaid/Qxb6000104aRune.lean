/-
  strings.IndexRune in ".:" at a rune beyond ASCII: -1.
-/
import Derived.Test.Qxb6000104aShelf
import Derived.Test.Qxb6000104aLib
import Derived.Laws.RangeAny
import Derived.WalkMore
import Derived.Deep.LoopGhost
import Derived.Deep.RegionWith
import Derived.WalkLawsBesides
namespace Go.Proofs.Qxb6000104a
open Go.RowKit

set_option maxHeartbeats 400000 in
set_option maxRecDepth 100000 in
theorem rune_invalid (cs : ByteArray) (r : Int) (h1 : 128 ≤ r) (hne : (r == 65533) = false) (hv : Lib.validRune r = false) (w : World) :
    Calls Try.prog 37 #[.string cs, .int .i32 r] w fun e w' => e = .returned (.int .i64 (-1)) ∧ w' = w := by
  have h0 : (0 : Int) ≤ r := by omega
  have h2 : ¬ r < 128 := by omega
  go_enter Try.func37, Try.ntmps37
  go_wp2_with (go_at_call 46; refine (Try.utf8_ValidRune _ _).mono ?_; rintro e w' ⟨rfl, rfl⟩)
  go_ret
  exact ⟨rfl, rfl⟩

theorem encode_two {r : Int} (h1 : 128 ≤ r) (h2 : r < 2048) : ∃ E : ByteArray, Utf8.encode r = E ∧ ∃ hz : E.size = 2, 128 ≤ (E[1]'(by omega)).toNat := by
  refine ⟨_, rfl, ?_⟩
  have hv : Utf8.valid r = true := by unfold Utf8.valid; simp; omega
  have e : Utf8.encode r = ⟨#[UInt8.ofNat (0xC0 + r.toNat / 64), UInt8.ofNat (0x80 + r.toNat % 64)]⟩ := by
    unfold Utf8.encode
    simp only [hv, if_true]
    rw [if_neg (by omega), if_pos (by omega)]
  have hz : (Utf8.encode r).size = 2 := by rw [e]; rfl
  refine ⟨hz, ?_⟩
  have : (Utf8.encode r)[1]'(by omega) = UInt8.ofNat (0x80 + r.toNat % 64) := by
    simp only [e]; rfl
  rw [this]
  simp [UInt8.toNat_ofNat]
  omega

theorem encode_more {r : Int} (h1 : 2048 ≤ r) : 3 ≤ (Utf8.encode r).size ∧ (Utf8.encode r).size ≤ 4 := by
  unfold Utf8.encode
  have hc : 2048 ≤ (if Utf8.valid r = true then r.toNat else Utf8.runeError) := by
    split
    · omega
    · decide
  simp only
  generalize (if Utf8.valid r = true then r.toNat else Utf8.runeError) = c at hc ⊢
  rw [if_neg (by omega), if_neg (by omega)]
  split <;> simp [ByteArray.size]

set_option maxHeartbeats 400000 in
set_option maxRecDepth 100000 in
theorem rune_wide (cs : ByteArray) (hcs : cs.size = 2) (r : Int) (h1 : 2048 ≤ r) (hne : (r == 65533) = false) (hv : Lib.validRune r = true) (w : World) :
    Calls Try.prog 37 #[.string cs, .int .i32 r] w fun e w' => e = .returned (.int .i64 (-1)) ∧ w' = w := by
  have h0 : (0 : Int) ≤ r := by omega
  have h2 : ¬ r < 128 := by omega
  obtain ⟨hz1, hz2⟩ := encode_more h1
  have hcz : (cs.size : Int) = 2 := by omega
  go_enter Try.func37, Try.ntmps37
  go_wp2_with (go_at_call 46; refine (Try.utf8_ValidRune _ _).mono ?_; rintro e w' ⟨rfl, rfl⟩)
  go_step3
  go_wp2_with fail
  refine wp_loop_rounds 1 ?_
  rw [rounds_succ]
  go_wp2_with fail
  rw [Exit.noGoto_ret]
  go_wp2_with fail
  go_ret
  exact ⟨rfl, rfl⟩

set_option maxHeartbeats 400000 in
set_option maxRecDepth 100000 in
theorem rune_two (cs : ByteArray) (hcs : cs.size = 2) (ha : (cs[1]'(by omega)).toNat < 128) (r : Int) (h1 : 128 ≤ r) (hr : r < 2048) (hv : Lib.validRune r = true) (w : World) :
    Calls Try.prog 37 #[.string cs, .int .i32 r] w fun e w' => e = .returned (.int .i64 (-1)) ∧ Below w.heap.size w w' := by
  have h0 : (0 : Int) ≤ r := by omega
  have h2 : ¬ r < 128 := by omega
  have hne : (r == 65533) = false := by simp; omega
  obtain ⟨E, hE, hz, hb⟩ := encode_two h1 hr
  have hcz : (cs.size : Int) = 2 := by omega
  have hEz : (E.size : Int) = 2 := by omega
  have hix : ∀ c, Lib.indexByte [] c = -1 := fun _ => rfl
  have hd : ((cs[1]'(by omega)).toNat != (E[1]'(by omega)).toNat) = true := by simp; omega
  go_enter Try.func37, Try.ntmps37
  go_wp2_with (go_at_call 46; refine (Try.utf8_ValidRune _ _).mono ?_; rintro e w' ⟨rfl, rfl⟩)
  go_step3
  go_wp2_with fail
  refine wp_loop_rounds 1 ?_
  rw [rounds_succ]
  go_wp2_with fail
  go_step3
  go_wp2_with fail
  go_region
  go_wp2_with fail
  go_region_with (go_at_call 45; refine (Try.strings_IndexByte _ _ _).mono ?_; rintro e w1 ⟨rfl, rfl⟩)
  all_goals
    go_wp2_with fail
    rw [Exit.noGoto_ret]
    go_wp2_with fail
    rw [Exit.noGoto_ret]
    go_wp2_with fail
    go_ret
    exact ⟨rfl, ((Below.refl _ _).drew).drew⟩

set_option maxHeartbeats 400000 in
set_option maxRecDepth 100000 in
theorem rune_err (cs : ByteArray) (HA : Hid (∀ i (h : i < cs.size), cs[i].toNat < 128)) (w : World) :
    Calls Try.prog 37 #[.string cs, .int .i32 65533] w fun e w' => e = .returned (.int .i64 (-1)) ∧ Below w.heap.size w w' := by
  go_enter Try.func37, Try.ntmps37
  go_wp2_with fail
  go_loopg [5, 6] cs.size (fun g _ _ wx => ∃ i : Nat, i + g = cs.size ∧ wx = w.iter cs i)
  case atStart => exact ⟨0, by omega, rfl⟩
  case round =>
    obtain ⟨i, hig, rfl⟩ := hrel
    cases gk with
    | zero =>
      obtain rfl : i = cs.size := by omega
      have hnx := run_next_end (P := Try.prog) w cs cs.size
      go_wp2
      go_ret
      exact ⟨rfl, (Below.refl _ _).alloc (Nat.le_refl _) _⟩
    | succ g =>
      have hi : i < cs.size := by omega
      have hx := HA.out i hi
      have hnx := fun ty => run_next_ascii (P := Try.prog) w cs i ty hi hx
      have hne : ((cs[i].toNat : Int) == 65533) = false := by simp; omega
      go_wp2
      go_roundg g
      case measure => omega
      case rel => exact ⟨i + 1, by omega, rfl⟩

/-- strings.IndexRune in a text of two ASCII bytes, at a rune beyond ASCII: -1. -/
theorem rune_high (cs : ByteArray) (hcs : cs.size = 2) (HA : Hid (∀ i (h : i < cs.size), cs[i].toNat < 128)) (r : Int) (h1 : 128 ≤ r) (w : World) :
    Calls Try.prog 37 #[.string cs, .int .i32 r] w fun e w' => e = .returned (.int .i64 (-1)) ∧ Below w.heap.size w w' := by
  by_cases he : r = 65533
  · subst he; exact rune_err cs HA w
  · have hne : (r == 65533) = false := by simpa using he
    cases hv : Lib.validRune r
    · exact (rune_invalid cs r h1 hne hv w).mono fun e w' h => ⟨h.1, h.2 ▸ Below.refl _ _⟩
    · by_cases h2 : r < 2048
      · exact rune_two cs hcs (HA.out 1 (by omega)) r h1 h2 hv w
      · exact (rune_wide cs hcs r (by omega) hne hv w).mono fun e w' h => ⟨h.1, h.2 ▸ Below.refl _ _⟩

end Go.Proofs.Qxb6000104a
