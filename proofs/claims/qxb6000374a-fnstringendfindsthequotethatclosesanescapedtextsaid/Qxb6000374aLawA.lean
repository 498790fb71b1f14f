/-
  THE WALK of FnStringEndFindsTheQuoteThatClosesAnEscapedText (seat b6000374a).
-/
import Derived.Test.Qxb6000374aEsc
import Derived.Deep.RegionWith
namespace Go.Proofs.Qxb6000374a
open Go.RowKit

set_option maxHeartbeats 400000 in
theorem bytes18_no (a0 a1 a2 : Option Addr) (n0 c0 n1 c1 n2 c2 : Nat) (h0 : n0 ≤ maxLen) (h1 : n1 ≤ maxLen) (h2 : n2 ≤ maxLen) (hbig : ¬ n0 + n1 + n2 ≤ 1048576) (w : World) :
    Calls Try.prog 18 #[.slice a0 n0 c0, .slice a1 n1 c1, .slice a2 n2 c2] w fun e w' => e = .returned (.bool false) ∧ w' = w := by
  unfold maxLen at h0 h1 h2
  go_enter Try.func18, Try.ntmps18
  go_wp2
  all_goals first | (go_ret; exact ⟨rfl, rfl⟩) | (exfalso; omega)

set_option maxHeartbeats 400000 in
theorem bytes18_yes (a0 a1 a2 : Option Addr) (n0 c0 n1 c1 n2 c2 : Nat) (hbig : n0 + n1 + n2 ≤ 1048576) (w : World) :
    Calls Try.prog 18 #[.slice a0 n0 c0, .slice a1 n1 c1, .slice a2 n2 c2] w fun e w' => e = .returned (.bool true) ∧ w' = w := by
  go_enter Try.func18, Try.ntmps18
  go_wp2
  all_goals first | (go_ret; exact ⟨rfl, rfl⟩) | (exfalso; omega)

theorem lawA_cells {P E S : List UInt8} {n0 n2 g B cap : Nat} {w : World} (h0 : P.length = n0) (h2 : S.length = n2)
    (h : w.ownsRow B 5 1 (.slice (some ⟨g, 0, none⟩) (n0 + 1 + E.length + 1 + n2) cap) (n0 + 1 + E.length + 1 + n2) (vals P ++ [.int .u8 34] ++ vals E ++ [.int .u8 34] ++ vals S)) :
    Hid (∀ t b, (P ++ 34 :: (E ++ 34 :: S))[t]? = some b → w.cell? ⟨g, t, none⟩ = some (.int .u8 (b.toNat : Int))) := by
  intro t b hb
  have ht := (List.getElem?_eq_some_iff.1 hb).1
  have e : vals P ++ [.int .u8 34] ++ vals E ++ [.int .u8 34] ++ vals S = vals (P ++ 34 :: (E ++ 34 :: S)) := by simp [vals]
  rw [e] at h
  rw [h.cellAt t (by simp at ht; omega)]
  exact vals_at hb

set_option maxHeartbeats 2000000 in
theorem lawA_walk (a0 a1 a2 : Option Addr) (n0 c0 n1 c1 n2 c2 : Nat) (P C S : List UInt8) (hbig : n0 + n1 + n2 ≤ 1048576) (h0 : n0 ≤ 262144) (h1 : n1 ≤ 262144) (h2 : n2 ≤ 262144)
    (w : World) (r0 : RowOf w a0 n0 c0 P) (r1 : RowOf w a1 n1 c1 C) (r2 : RowOf w a2 n2 c2 S) :
    Calls Try.prog 5 #[.slice a0 n0 c0, .slice a1 n1 c1, .slice a2 n2 c2] w fun e w' => e = .returned (.bool true) ∧ Below w.heap.size w w' := by
  obtain ⟨i0, hi, hz0, hz1, hz2⟩ := info_parts Try.info5
  have hel : (esc C).length ≤ 2 * n1 := by have := esc_le C; rw [r1.1] at this; exact this
  have HS : Hid (IsStr (P ++ 34 :: (esc C ++ 34 :: S)) n0 (n0 + 1 + (esc C).length)) := by
    have := isStr_of P (esc C) S (esc_quiet C)
    rw [r0.1] at this; exact this
  have q0 : n0 ≤ 16777216 := by omega
  have q1 : n1 ≤ 16777216 := by omega
  have q2 : n2 ≤ 16777216 := by omega
  go_enter Try.func5, Try.ntmps5
  go_wp2_with (first
    | (go_at_call 18; refine (bytes18_yes _ _ _ _ _ _ _ _ _ hbig _).mono ?_; rintro e w ⟨rfl, rfl⟩)
    | (go_at_call_of 13 (Value.slice a0 n0 c0); refine (clone_any a0 n0 c0 P q0 _ r0).mono ?_; rintro e w1 ⟨p0, d0, rfl, s0, b1⟩)
    | (go_at_call_of 13 (Value.slice a1 n1 c1); refine (clone_any a1 n1 c1 C q1 _ (r1.below b1)).mono ?_; rintro e w2 ⟨p1, d1, rfl, s1, b2⟩)
    | (go_at_call_of 13 (Value.slice a2 n2 c2); refine (clone_any a2 n2 c2 S q2 _ ((r2.below b1).below b2)).mono ?_; rintro e w3 ⟨p2, d2, rfl, s2, b3⟩)
    | (go_at_call 19; refine (esc_any p1 n1 d1 C q1 _ (s1.below b3)).mono ?_; rintro e w4 ⟨p3, d3, rfl, s3, b4⟩)
    | (at_make; refine wpList_make_own _ rfl _ _ 22 rfl w4.heap.size 5 i0 (.int .u8 0) 1 Try.underlying22 hi hz0 hz1 .i64 .i64 _ (n0 + (esc C).length + 2 + n2) rfl rfl (by omega) (by rw [hz2]; omega) (by unfold maxLen; omega) (Nat.le_refl _) ?_; intro w5 hown5 hgrow5; have B5 : Below w4.heap.size w4 w5 := (Below.refl _ _).grown hgrow5 (Nat.le_refl _) (fun k h => by cases h))
    | (at_builtin; refine wpList_append_fits_any _ rfl (.tmp 41) (.tmp 42) 22 rfl w4.heap.size 5 i0 1 Try.underlying22 hi hz1 w4.heap.size 0 (n0 + (esc C).length + 2 + n2) _ rfl hown5 p0 n0 d0 (vals P) rfl (by rw [vals_length, s0.1]; omega) s0.2.2.1 ((((s0.below b2).below b3).below b4).below B5).2.2.2 (vals_one P) (by omega) ?_; intro w6 hown6 hgrow6; simp only [Nat.zero_add, List.nil_append] at hown6; have B6 := B5.grown hgrow6 B5.size (fun k h => by simp at h; omega))
    | (at_builtin; refine wpList_append_fits _ rfl (.tmp 44) (.tmp 45) 22 rfl w4.heap.size 5 i0 1 Try.underlying22 hi hz1 w4.heap.size n0 (n0 + (esc C).length + 2 + n2) _ rfl (hown6.alloc _) ⟨w6.heap.size, 0, none⟩ 1 1 [.int .u8 34] rfl rfl (cell_one_new _ _ _) (one_u8 _) (by omega) ?_; intro w7 hown7 hgrow7; have B7 := below_step B6 B6.size hgrow7 (Nat.le_refl _))
    | (at_builtin; refine wpList_append_fits_any _ rfl (.tmp 47) (.tmp 48) 22 rfl w4.heap.size 5 i0 1 Try.underlying22 hi hz1 w4.heap.size (n0 + 1) (n0 + (esc C).length + 2 + n2) _ rfl hown7 p3 (esc C).length d3 (vals (esc C)) rfl (by rw [vals_length]; omega) s3.2.2.1 (s3.below B7.1).2.2.2 (vals_one _) (by omega) ?_; intro w8 hown8 hgrow8; have B8 := B7.1.grown hgrow8 B7.2 (fun k h => by simp at h; omega))
    | (at_builtin; refine wpList_append_fits _ rfl (.tmp 50) (.tmp 51) 22 rfl w4.heap.size 5 i0 1 Try.underlying22 hi hz1 w4.heap.size (n0 + 1 + (esc C).length) (n0 + (esc C).length + 2 + n2) _ rfl (hown8.alloc _) ⟨w8.heap.size, 0, none⟩ 1 1 [.int .u8 34] rfl rfl (cell_one_new _ _ _) (one_u8 _) (by omega) ?_; intro w9 hown9 hgrow9; have B9 := below_step B8 B8.size hgrow9 (Nat.le_refl _))
    | (at_builtin; refine wpList_append_fits_any _ rfl (.tmp 53) (.tmp 54) 22 rfl w4.heap.size 5 i0 1 Try.underlying22 hi hz1 w4.heap.size (n0 + 1 + (esc C).length + 1) (n0 + (esc C).length + 2 + n2) _ rfl hown9 p2 n2 d2 (vals S) rfl (by rw [vals_length, s2.1]; omega) s2.2.2.1 ((s2.below b4).below B9.1).2.2.2 (vals_one _) (by omega) ?_; intro w10 hown10 hgrow10; have B10 := B9.1.grown hgrow10 B9.2 (fun k h => by simp at h; omega)))
  have HC := lawA_cells r0.1 r2.1 hown10
  have hLl : (P ++ 34 :: (esc C ++ 34 :: S)).length = n0 + 1 + (esc C).length + 1 + n2 := by simp [r0.1, r2.1]; omega
  have bel : Below w.heap.size w w10 := (((b1.trans (b2.mono b1.size)).trans (b3.mono (Nat.le_trans b1.size b2.size))).trans (b4.mono (Nat.le_trans b1.size (Nat.le_trans b2.size b3.size)))).trans (B10.mono (Nat.le_trans b1.size (Nat.le_trans b2.size (Nat.le_trans b3.size b4.size))))
  refine (stringEnd_any _ _ _ _ hLl (by omega) (by omega) _ HC n0 (n0 + 1 + (esc C).length) HS.out).mono ?_
  rintro e w11 ⟨rfl, rfl⟩
  clear hown5 hown6 hown7 hown8 hown9 hown10 hgrow5 hgrow6 hgrow7 hgrow8 hgrow9 hgrow10 HC hLl
  have heq : ((n0 : Int) + 1 + ((esc C).length : Int) + 1 == (n0 : Int) + ((esc C).length : Int) + 2) = true := by simp; omega
  go_wp2
  go_ret
  exact ⟨rfl, bel⟩

/-- FnStringEndFindsTheQuoteThatClosesAnEscapedText returns true. -/
theorem lawA_any (a0 a1 a2 : Option Addr) (n0 c0 n1 c1 n2 c2 : Nat) (P C S : List UInt8) (m0 : n0 ≤ maxLen) (m1 : n1 ≤ maxLen) (m2 : n2 ≤ maxLen)
    (w : World) (r0 : RowOf w a0 n0 c0 P) (r1 : RowOf w a1 n1 c1 C) (r2 : RowOf w a2 n2 c2 S) :
    Calls Try.prog 5 #[.slice a0 n0 c0, .slice a1 n1 c1, .slice a2 n2 c2] w fun e w' => e = .returned (.bool true) ∧ Below w.heap.size w w' := by
  by_cases hbig : n0 + n1 + n2 ≤ 1048576
  · by_cases h0 : n0 ≤ 262144
    · by_cases h1 : n1 ≤ 262144
      · by_cases h2 : n2 ≤ 262144
        · exact lawA_walk a0 a1 a2 n0 c0 n1 c1 n2 c2 P C S hbig h0 h1 h2 w r0 r1 r2
        · go_enter Try.func5, Try.ntmps5
          go_wp2_with (go_at_call 18; refine (bytes18_yes _ _ _ _ _ _ _ _ _ hbig _).mono ?_; rintro e w' ⟨rfl, rfl⟩)
          go_ret
          exact ⟨rfl, Below.refl _ _⟩
      · go_enter Try.func5, Try.ntmps5
        go_wp2_with (go_at_call 18; refine (bytes18_yes _ _ _ _ _ _ _ _ _ hbig _).mono ?_; rintro e w' ⟨rfl, rfl⟩)
        go_ret
        exact ⟨rfl, Below.refl _ _⟩
    · go_enter Try.func5, Try.ntmps5
      go_wp2_with (go_at_call 18; refine (bytes18_yes _ _ _ _ _ _ _ _ _ hbig _).mono ?_; rintro e w' ⟨rfl, rfl⟩)
      go_ret
      exact ⟨rfl, Below.refl _ _⟩
  · go_enter Try.func5, Try.ntmps5
    go_wp2_with (go_at_call 18; refine (bytes18_no _ _ _ _ _ _ _ _ _ m0 m1 m2 hbig _).mono ?_; rintro e w' ⟨rfl, rfl⟩)
    go_ret
    exact ⟨rfl, Below.refl _ _⟩

end Go.Proofs.Qxb6000374a
