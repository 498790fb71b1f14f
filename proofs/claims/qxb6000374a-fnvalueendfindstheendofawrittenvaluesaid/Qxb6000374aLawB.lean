/-
  THE WALK of FnValueEndFindsTheEndOfAWrittenValue (seat b6000374a).
-/
import Derived.Test.Qxb6000374aWrite2
import Derived.Test.Qxb6000374aVal
namespace Go.Proofs.Qxb6000374a
open Go.RowKit

/-- valueEnd at a written value. -/
theorem valueEnd_any (g n cap : Nat) (L : List UInt8) (hL : L.length = n) (hnc : n ≤ cap) (hn : n ≤ 16777216) (w : World)
    (HC : Hid (∀ t b, L[t]? = some b → w.cell? ⟨g, t, none⟩ = some (.int .u8 (b.toNat : Int)))) (p : Nat) (P T S : List UInt8) (hp : P.length = p) (hLs : L = P ++ T ++ S) (hV : IsVal T) :
    Calls Try.prog 35 #[.slice (some ⟨g, 0, none⟩) n cap, .int .i64 p] w fun e w' => e = .returned (.int .i64 ((p + T.length : Nat) : Int)) ∧ w' = w := by
  obtain ⟨M, x, rfl, h1, h2⟩ := hV
  have := valueEnd_core g n cap L hL hnc hn w HC p P M S x hp (by show L = _; rw [hLs]; simp) h1 h2
  have e : p + (91 :: M ++ [x]).length = p + M.length + 2 := by simp; omega
  rw [e]; exact this

theorem zzValueEnd (g n cap : Nat) (L : List UInt8) (hL : L.length = n) (hnc : n ≤ cap) (hn : n ≤ 16777216) (w : World)
    (HC : Hid (∀ t b, L[t]? = some b → w.cell? ⟨g, t, none⟩ = some (.int .u8 (b.toNat : Int)))) (p : Nat) (P T S : List UInt8) (hp : P.length = p) (hLs : Hid (L = P ++ T ++ S)) (hV : Hid (IsVal T)) :
    Calls Try.prog 22 #[.slice (some ⟨g, 0, none⟩) n cap, .int .i64 p] w fun e w' => e = .returned (.int .i64 ((p + T.length : Nat) : Int)) ∧ w' = w := by
  have H1 : Hid (L.length = n) := hL
  have H2 : Hid (P.length = p) := hp
  clear hL hp
  go_enter Try.func22, Try.ntmps22
  go_wp2_with (go_at_call 35; refine (valueEnd_any g n cap L H1.out hnc hn _ HC p P T S H2.out hLs.out hV.out).mono ?_; rintro e w ⟨rfl, rfl⟩)
  go_ret
  exact ⟨by first | rfl | (exact ret_int (by simp)), rfl⟩

set_option maxHeartbeats 400000 in
theorem bytes20_no (a0 a1 a2 : Option Addr) (n0 c0 n1 c1 n2 c2 : Nat) (h0 : n0 ≤ maxLen) (h1 : n1 ≤ maxLen) (h2 : n2 ≤ maxLen) (hbig : ¬ n0 + n1 + n2 ≤ 1048576) (w : World) :
    Calls Try.prog 20 #[.slice a0 n0 c0, .slice a1 n1 c1, .slice a2 n2 c2] w fun e w' => e = .returned (.bool false) ∧ w' = w := by
  unfold maxLen at h0 h1 h2
  go_enter Try.func20, Try.ntmps20
  go_wp2
  all_goals first | (go_ret; exact ⟨rfl, rfl⟩) | (exfalso; omega)

set_option maxHeartbeats 400000 in
theorem bytes20_yes (a0 a1 a2 : Option Addr) (n0 c0 n1 c1 n2 c2 : Nat) (hbig : n0 + n1 + n2 ≤ 1048576) (w : World) :
    Calls Try.prog 20 #[.slice a0 n0 c0, .slice a1 n1 c1, .slice a2 n2 c2] w fun e w' => e = .returned (.bool true) ∧ w' = w := by
  go_enter Try.func20, Try.ntmps20
  go_wp2
  all_goals first | (go_ret; exact ⟨rfl, rfl⟩) | (exfalso; omega)

theorem own_cells {L : List UInt8} {n g B cap : Nat} {w : World} (hL : L.length = n) (h : w.ownsRow B 5 1 (.slice (some ⟨g, 0, none⟩) n cap) n (vals L)) :
    Hid (∀ t b, L[t]? = some b → w.cell? ⟨g, t, none⟩ = some (.int .u8 (b.toNat : Int))) := by
  intro t b hb
  have ht := (List.getElem?_eq_some_iff.1 hb).1
  rw [h.cellAt t (by omega)]
  exact vals_at hb

set_option maxHeartbeats 2000000 in
theorem lawB_walk (a0 a1 a2 : Option Addr) (n0 c0 n1 c1 n2 c2 : Nat) (P C S : List UInt8) (hbig : n0 + n1 + n2 ≤ 1048576) (h0 : n0 ≤ 131072) (h1 : n1 ≤ 32768) (h2 : n2 ≤ 131072)
    (w : World) (r0 : RowOf w a0 n0 c0 P) (r1 : RowOf w a1 n1 c1 C) (r2 : RowOf w a2 n2 c2 S) :
    Calls Try.prog 6 #[.slice a0 n0 c0, .slice a1 n1 c1, .slice a2 n2 c2] w fun e w' => e = .returned (.bool true) ∧ Below w.heap.size w w' := by
  have q0 : n0 ≤ 16777216 := by omega
  have q1 : n1 ≤ 16777216 := by omega
  have q2 : n2 ≤ 16777216 := by omega
  go_enter Try.func6, Try.ntmps6
  go_wp2_with (first
    | (go_at_call 20; refine (bytes20_yes _ _ _ _ _ _ _ _ _ hbig _).mono ?_; rintro e w ⟨rfl, rfl⟩)
    | (go_at_call_of 13 (Value.slice a0 n0 c0); refine (clone_any a0 n0 c0 P q0 _ r0).mono ?_; rintro e w1 ⟨p0, d0, rfl, s0, b1⟩)
    | (go_at_call_of 13 (Value.slice a1 n1 c1); refine (clone_any a1 n1 c1 C q1 _ (r1.below b1)).mono ?_; rintro e w2 ⟨p1, d1, rfl, s1, b2⟩)
    | (go_at_call_of 13 (Value.slice a2 n2 c2); refine (clone_any a2 n2 c2 S q2 _ ((r2.below b1).below b2)).mono ?_; rintro e w3 ⟨p2, d2, rfl, s2, b3⟩)
    | (go_at_call 21; refine (write_any p1 n1 d1 C h1 _ (s1.below b3)).mono ?_; rintro e w4 ⟨g4, no, cap4, T, rfl, hTl, hTn, hV, own4, b4⟩; have hc4 := own_cap own4)
    | (go_at_call_of 17 (Value.slice p0 n0 d0); refine (concat_any p0 (some ⟨g4, 0, none⟩) n0 d0 no cap4 P T (by omega) (by omega) _ (((s0.below b2).below b3).below b4) (RowOf.own hTl hc4 own4)).mono ?_; rintro e w5 ⟨rfl, own5, b5⟩)
    | (go_at_call_of 17 (Value.slice p2 n2 d2); refine (concat_any (some ⟨w4.heap.size, 0, none⟩) p2 (n0 + no) (n0 + no) n2 d2 (P ++ T) S (by omega) (by omega) _ (RowOf.own (by simp [s0.1, hTl]) (Nat.le_refl _) own5) ((s2.below b4).below b5)).mono ?_; rintro e w6 ⟨rfl, own6, b6⟩))
  have hLl : (P ++ T ++ S).length = n0 + no + n2 := by simp [s0.1, hTl, s2.1]; omega
  have HC := own_cells hLl own6
  have bel : Below w.heap.size w w6 := ((((b1.trans (b2.mono b1.size)).trans (b3.mono (Nat.le_trans b1.size b2.size))).trans (b4.mono (Nat.le_trans b1.size (Nat.le_trans b2.size b3.size)))).trans (b5.mono (Nat.le_trans b1.size (Nat.le_trans b2.size (Nat.le_trans b3.size b4.size))))).trans (b6.mono (Nat.le_trans b1.size (Nat.le_trans b2.size (Nat.le_trans b3.size (Nat.le_trans b4.size b5.size)))))
  refine (zzValueEnd w5.heap.size (n0 + no + n2) (n0 + no + n2) (P ++ T ++ S) hLl (Nat.le_refl _) (by omega) _ HC n0 P T S s0.1 rfl hV).mono ?_
  rintro e w7 ⟨rfl, rfl⟩
  have heq : ((n0 : Int) + (T.length : Int) == (n0 : Int) + (no : Int)) = true := by rw [hTl]; simp
  clear own4 own5 own6 HC hLl hTl s0 s1 s2 b1 b2 b3 b4 b5 b6 hV r0 r1 r2
  go_wp2
  go_ret
  exact ⟨rfl, bel⟩

/-- FnValueEndFindsTheEndOfAWrittenValue returns true. -/
theorem lawB_any (a0 a1 a2 : Option Addr) (n0 c0 n1 c1 n2 c2 : Nat) (P C S : List UInt8) (m0 : n0 ≤ maxLen) (m1 : n1 ≤ maxLen) (m2 : n2 ≤ maxLen)
    (w : World) (r0 : RowOf w a0 n0 c0 P) (r1 : RowOf w a1 n1 c1 C) (r2 : RowOf w a2 n2 c2 S) :
    Calls Try.prog 6 #[.slice a0 n0 c0, .slice a1 n1 c1, .slice a2 n2 c2] w fun e w' => e = .returned (.bool true) ∧ Below w.heap.size w w' := by
  by_cases hbig : n0 + n1 + n2 ≤ 1048576
  · by_cases h0 : n0 ≤ 131072
    · by_cases h1 : n1 ≤ 32768
      · by_cases h2 : n2 ≤ 131072
        · exact lawB_walk a0 a1 a2 n0 c0 n1 c1 n2 c2 P C S hbig h0 h1 h2 w r0 r1 r2
        · go_enter Try.func6, Try.ntmps6
          go_wp2_with (go_at_call 20; refine (bytes20_yes _ _ _ _ _ _ _ _ _ hbig _).mono ?_; rintro e w' ⟨rfl, rfl⟩)
          go_ret
          exact ⟨rfl, Below.refl _ _⟩
      · go_enter Try.func6, Try.ntmps6
        go_wp2_with (go_at_call 20; refine (bytes20_yes _ _ _ _ _ _ _ _ _ hbig _).mono ?_; rintro e w' ⟨rfl, rfl⟩)
        go_ret
        exact ⟨rfl, Below.refl _ _⟩
    · go_enter Try.func6, Try.ntmps6
      go_wp2_with (go_at_call 20; refine (bytes20_yes _ _ _ _ _ _ _ _ _ hbig _).mono ?_; rintro e w' ⟨rfl, rfl⟩)
      go_ret
      exact ⟨rfl, Below.refl _ _⟩
  · go_enter Try.func6, Try.ntmps6
    go_wp2_with (go_at_call 20; refine (bytes20_no _ _ _ _ _ _ _ _ _ m0 m1 m2 hbig _).mono ?_; rintro e w' ⟨rfl, rfl⟩)
    go_ret
    exact ⟨rfl, Below.refl _ _⟩

end Go.Proofs.Qxb6000374a
