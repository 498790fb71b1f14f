/-
  THE WALKS of zzHexDigit and zzWriteStringByte (seat b6000374a).
-/
import Derived.Test.Qxb6000374aHelp
namespace Go.Proofs.Qxb6000374a
open Go.RowKit

theorem hex_small (n : Int) (h0 : 0 ≤ n) (h1 : n < 10) : ∃ h : UInt8, (h.toNat : Int) = 48 + n ∧ h ≠ 34 ∧ h ≠ 92 := by
  refine ⟨UInt8.ofNat (48 + n.toNat), by simp; omega, ?_, ?_⟩ <;>
  · intro e
    have := congrArg UInt8.toNat e
    simp at this
    omega

theorem hex_great (n : Int) (h0 : 10 ≤ n) (h1 : n ≤ 15) : ∃ h : UInt8, (h.toNat : Int) = 97 + n - 10 ∧ h ≠ 34 ∧ h ≠ 92 := by
  refine ⟨UInt8.ofNat (87 + n.toNat), by simp; omega, ?_, ?_⟩ <;>
  · intro e
    have := congrArg UInt8.toNat e
    simp at this
    omega

set_option maxHeartbeats 400000 in
theorem hexDigit_any (n : Int) (h0 : 0 ≤ n) (h1 : n ≤ 15) (w : World) :
    Calls Try.prog 26 #[.int .u8 n, .bool false] w fun e w' => (∃ h : UInt8, e = .returned (.int .u8 (h.toNat : Int)) ∧ h ≠ 34 ∧ h ≠ 92) ∧ w' = w := by
  by_cases hs : n < 10
  · obtain ⟨h, e1, e2, e3⟩ := hex_small n h0 hs
    have HE : Hid ((h.toNat : Int) = 48 + n) := e1
    clear e1
    go_enter Try.func26, Try.ntmps26
    go_wp2
    go_ret
    exact ⟨⟨h, by rw [HE.out]; rfl, e2, e3⟩, rfl⟩
  · obtain ⟨h, e1, e2, e3⟩ := hex_great n (by omega) h1
    have HE : Hid ((h.toNat : Int) = 97 + n - 10) := e1
    clear e1
    go_enter Try.func26, Try.ntmps26
    go_wp2
    go_ret
    exact ⟨⟨h, by rw [HE.out]; rfl, e2, e3⟩, rfl⟩

theorem two_u8 (a b : Int) : ∀ u ∈ ([Value.int .u8 a, .int .u8 b] : List Value), u.oneCell' = true := by
  intro u hu; simp at hu; rcases hu with rfl | rfl <;> rfl

set_option maxHeartbeats 400000 in
theorem writeByte_special (B o cap : Nat) (O : List UInt8) (c : UInt8) (w : World) (hlen : O.length ≤ 16777216) (hB : B ≤ w.heap.size)
    (hown : w.ownsRow B 5 1 (.slice (some ⟨o, 0, none⟩) O.length cap) O.length (vals O)) (hc : c = 34 ∨ c = 92) :
    Calls Try.prog 34 #[.slice (some ⟨o, 0, none⟩) O.length cap, .int .u8 (c.toNat : Int)] w fun e w' => ∃ g cap' N, e = .returned (.slice (some ⟨g, 0, none⟩) (O.length + N.length) cap') ∧ N.length ≤ 6 ∧ (∀ d, vs 1 d N = some (1, d)) ∧ Appended B o w w' O N g cap' := by
  obtain ⟨i0, hi, hz0, hz1, hz2⟩ := info_parts Try.info5
  have hv : ∀ d, vs 1 d [92, c] = some (1, d) := fun d => by rw [vs_even, if_pos rfl, vs_odd, vs_nil]
  have hsp : ((c.toNat : Int) == 34) = true ∨ (((c.toNat : Int) == 34) = false ∧ ((c.toNat : Int) == 92) = true) := by rcases hc with rfl | rfl <;> simp
  have HV : Hid (∀ d, vs 1 d [92, c] = some (1, d)) := hv
  clear hv hc
  rcases hsp with h34 | ⟨h34, h92⟩
  · go_enter Try.func34, Try.ntmps34
    go_wp2_with (at_builtin; refine wpList_append_lies _ rfl (.tmp 11) (.tmp 13) 22 rfl B 5 i0 (.int .u8 0) 1 1 Try.underlying22 hi hz0 hz1 hz2 rfl (by decide) (.slice (some ⟨o, 0, none⟩) O.length cap) O.length _ rfl (hown.alloc _) ⟨w.heap.size, 0, none⟩ 2 2 [.int .u8 92, .int .u8 (c.toNat : Int)] rfl rfl (cells_new _ #[.int .u8 92, .int .u8 (c.toNat : Int)] _) (two_u8 _ _) (by omega) (by unfold maxLen; omega) (by omega) (by simp; omega) _ rfl ?_; intro g cap1 w1 hown1 hgrow1 hat1 hlt1)
    go_ret
    exact ⟨g, cap1, [92, c], rfl, by simp, HV.out, Appended.mk' (N := [92, c]) hown1 hgrow1 hat1 hlt1⟩
  · go_enter Try.func34, Try.ntmps34
    go_wp2_with (at_builtin; refine wpList_append_lies _ rfl (.tmp 11) (.tmp 13) 22 rfl B 5 i0 (.int .u8 0) 1 1 Try.underlying22 hi hz0 hz1 hz2 rfl (by decide) (.slice (some ⟨o, 0, none⟩) O.length cap) O.length _ rfl (hown.alloc _) ⟨w.heap.size, 0, none⟩ 2 2 [.int .u8 92, .int .u8 (c.toNat : Int)] rfl rfl (cells_new _ #[.int .u8 92, .int .u8 (c.toNat : Int)] _) (two_u8 _ _) (by omega) (by unfold maxLen; omega) (by omega) (by simp; omega) _ rfl ?_; intro g cap1 w1 hown1 hgrow1 hat1 hlt1)
    go_ret
    exact ⟨g, cap1, [92, c], rfl, by simp, HV.out, Appended.mk' (N := [92, c]) hown1 hgrow1 hat1 hlt1⟩

set_option maxHeartbeats 400000 in
theorem writeByte_plain (B o cap : Nat) (O : List UInt8) (c : UInt8) (w : World) (hlen : O.length ≤ 16777216) (hB : B ≤ w.heap.size)
    (hown : w.ownsRow B 5 1 (.slice (some ⟨o, 0, none⟩) O.length cap) O.length (vals O)) (h34 : ((c.toNat : Int) == 34) = false) (h92 : ((c.toNat : Int) == 92) = false) (hlo : (32 : Int) ≤ (c.toNat : Int)) (hhi : (c.toNat : Int) < 127) :
    Calls Try.prog 34 #[.slice (some ⟨o, 0, none⟩) O.length cap, .int .u8 (c.toNat : Int)] w fun e w' => ∃ g cap' N, e = .returned (.slice (some ⟨g, 0, none⟩) (O.length + N.length) cap') ∧ N.length ≤ 6 ∧ (∀ d, vs 1 d N = some (1, d)) ∧ Appended B o w w' O N g cap' := by
  obtain ⟨i0, hi, hz0, hz1, hz2⟩ := info_parts Try.info5
  have hv : ∀ d, vs 1 d [c] = some (1, d) := fun d => by
    have e := spec_not h34 h92
    simp only [not_or] at e
    rw [vs_even, if_neg e.2, if_neg e.1, vs_nil]
  have HV : Hid (∀ d, vs 1 d [c] = some (1, d)) := hv
  clear hv
  have hn1 : ¬ (c.toNat : Int) < 32 := by omega
  have hn2 : decide ((127 : Int) ≤ (c.toNat : Int)) = false := decide_eq_false (by omega)
  go_enter Try.func34, Try.ntmps34
  go_wp2_with (at_builtin; refine wpList_append_lies _ rfl (.tmp 30) (.tmp 32) 22 rfl B 5 i0 (.int .u8 0) 1 1 Try.underlying22 hi hz0 hz1 hz2 rfl (by decide) (.slice (some ⟨o, 0, none⟩) O.length cap) O.length _ rfl (hown.alloc _) ⟨w.heap.size, 0, none⟩ 1 1 [.int .u8 (c.toNat : Int)] rfl rfl (cell_one_new _ _ _) (one_u8 _) (by omega) (by unfold maxLen; omega) (by omega) (by simp; omega) _ rfl ?_; intro g cap1 w1 hown1 hgrow1 hat1 hlt1)
  go_ret
  exact ⟨g, cap1, [c], rfl, by simp, HV.out, Appended.mk' (N := [c]) hown1 hgrow1 hat1 hlt1⟩

theorem six_vs {x y : UInt8} (x1 : x ≠ 34) (x2 : x ≠ 92) (y1 : y ≠ 34) (y2 : y ≠ 92) : ∀ d, vs 1 d [92, 117, 48, 48, x, y] = some (1, d) := by
  intro d
  rw [vs_even, if_pos rfl, vs_odd, vs_even, if_neg (by decide), if_neg (by decide), vs_even, if_neg (by decide), if_neg (by decide), vs_even, if_neg x2, if_neg x1, vs_even, if_neg y2, if_neg y1, vs_nil]

theorem six_u8 (a b c d e f : Int) : ∀ u ∈ ([Value.int .u8 a, .int .u8 b, .int .u8 c, .int .u8 d, .int .u8 e, .int .u8 f] : List Value), u.oneCell' = true := by
  intro u hu; simp at hu; rcases hu with rfl | rfl | rfl | rfl | rfl | rfl <;> rfl

set_option maxHeartbeats 400000 in
theorem writeByte_other (B o cap : Nat) (O : List UInt8) (c : UInt8) (w : World) (hlen : O.length ≤ 16777216) (hB : B ≤ w.heap.size)
    (hown : w.ownsRow B 5 1 (.slice (some ⟨o, 0, none⟩) O.length cap) O.length (vals O)) (h34 : ((c.toNat : Int) == 34) = false) (h92 : ((c.toNat : Int) == 92) = false) (hc : (c.toNat : Int) < 32 ∨ ((32 : Int) ≤ (c.toNat : Int) ∧ (127 : Int) ≤ (c.toNat : Int))) :
    Calls Try.prog 34 #[.slice (some ⟨o, 0, none⟩) O.length cap, .int .u8 (c.toNat : Int)] w fun e w' => ∃ g cap' N, e = .returned (.slice (some ⟨g, 0, none⟩) (O.length + N.length) cap') ∧ N.length ≤ 6 ∧ (∀ d, vs 1 d N = some (1, d)) ∧ Appended B o w w' O N g cap' := by
  obtain ⟨i0, hi, hz0, hz1, hz2⟩ := info_parts Try.info5
  have hcb : (c.toNat : Int) < 256 := by have := c.toNat_lt; omega
  rcases hc with hlo | ⟨hlo, hhi⟩
  · go_enter Try.func34, Try.ntmps34
    go_wp2_with fail
    refine (hexDigit_any _ ?_ ?_ _).mono ?_
    · omega
    · omega
    rintro e w ⟨⟨x, rfl, x1, x2⟩, rfl⟩
    go_wp2_with fail
    refine (hexDigit_any _ ?_ ?_ _).mono ?_
    · omega
    · omega
    rintro e w ⟨⟨y, rfl, y1, y2⟩, rfl⟩
    have HV : Hid (∀ d, vs 1 d [92, 117, 48, 48, x, y] = some (1, d)) := six_vs x1 x2 y1 y2
    clear x1 x2 y1 y2
    go_wp2_with (at_builtin; refine wpList_append_lies _ rfl (.tmp 21) (.tmp 28) 22 rfl B 5 i0 (.int .u8 0) 1 1 Try.underlying22 hi hz0 hz1 hz2 rfl (by decide) (.slice (some ⟨o, 0, none⟩) O.length cap) O.length _ rfl (hown.alloc _) ⟨w.heap.size, 0, none⟩ 6 6 [.int .u8 92, .int .u8 117, .int .u8 48, .int .u8 48, .int .u8 (x.toNat : Int), .int .u8 (y.toNat : Int)] rfl rfl (cells_new _ #[.int .u8 92, .int .u8 117, .int .u8 48, .int .u8 48, .int .u8 (x.toNat : Int), .int .u8 (y.toNat : Int)] _) (six_u8 _ _ _ _ _ _) (by omega) (by unfold maxLen; omega) (by omega) (by simp; omega) _ rfl ?_; intro g cap1 w1 hown1 hgrow1 hat1 hlt1)
    go_ret
    exact ⟨g, cap1, [92, 117, 48, 48, x, y], rfl, by simp, HV.out, Appended.mk' (N := [92, 117, 48, 48, x, y]) hown1 hgrow1 hat1 hlt1⟩
  · have hn1 : ¬ (c.toNat : Int) < 32 := by omega
    go_enter Try.func34, Try.ntmps34
    go_wp2_with fail
    refine (hexDigit_any _ ?_ ?_ _).mono ?_
    · omega
    · omega
    rintro e w ⟨⟨x, rfl, x1, x2⟩, rfl⟩
    go_wp2_with fail
    refine (hexDigit_any _ ?_ ?_ _).mono ?_
    · omega
    · omega
    rintro e w ⟨⟨y, rfl, y1, y2⟩, rfl⟩
    have HV : Hid (∀ d, vs 1 d [92, 117, 48, 48, x, y] = some (1, d)) := six_vs x1 x2 y1 y2
    clear x1 x2 y1 y2
    go_wp2_with (at_builtin; refine wpList_append_lies _ rfl (.tmp 21) (.tmp 28) 22 rfl B 5 i0 (.int .u8 0) 1 1 Try.underlying22 hi hz0 hz1 hz2 rfl (by decide) (.slice (some ⟨o, 0, none⟩) O.length cap) O.length _ rfl (hown.alloc _) ⟨w.heap.size, 0, none⟩ 6 6 [.int .u8 92, .int .u8 117, .int .u8 48, .int .u8 48, .int .u8 (x.toNat : Int), .int .u8 (y.toNat : Int)] rfl rfl (cells_new _ #[.int .u8 92, .int .u8 117, .int .u8 48, .int .u8 48, .int .u8 (x.toNat : Int), .int .u8 (y.toNat : Int)] _) (six_u8 _ _ _ _ _ _) (by omega) (by unfold maxLen; omega) (by omega) (by simp; omega) _ rfl ?_; intro g cap1 w1 hown1 hgrow1 hat1 hlt1)
    go_ret
    exact ⟨g, cap1, [92, 117, 48, 48, x, y], rfl, by simp, HV.out, Appended.mk' (N := [92, 117, 48, 48, x, y]) hown1 hgrow1 hat1 hlt1⟩

/-- zzWriteStringByte. -/
theorem writeByte_any (B o cap : Nat) (O : List UInt8) (c : UInt8) (w : World) (hlen : O.length ≤ 16777216) (hB : B ≤ w.heap.size)
    (hown : w.ownsRow B 5 1 (.slice (some ⟨o, 0, none⟩) O.length cap) O.length (vals O)) :
    Calls Try.prog 34 #[.slice (some ⟨o, 0, none⟩) O.length cap, .int .u8 (c.toNat : Int)] w fun e w' => ∃ g cap' N, e = .returned (.slice (some ⟨g, 0, none⟩) (O.length + N.length) cap') ∧ N.length ≤ 6 ∧ (∀ d, vs 1 d N = some (1, d)) ∧ Appended B o w w' O N g cap' := by
  by_cases hc : c = 34 ∨ c = 92
  · exact writeByte_special B o cap O c w hlen hB hown hc
  · obtain ⟨h34, h92⟩ := not_special hc
    by_cases h : (32 : Int) ≤ (c.toNat : Int) ∧ (c.toNat : Int) < 127
    · exact writeByte_plain B o cap O c w hlen hB hown h34 h92 h.1 h.2
    · exact writeByte_other B o cap O c w hlen hB hown h34 h92 (by omega)

end Go.Proofs.Qxb6000374a
