/-
  THE WALK of valueEnd at a written value (seat b6000374a).
-/
import Derived.Test.Qxb6000374aEnd
import Derived.Test.Qxb6000374aScan
namespace Go.Proofs.Qxb6000374a
open Go.RowKit

theorem u8_eq {c : UInt8} {k : Nat} (hk : k < 256) (h : c = UInt8.ofNat k) : ((c.toNat : Int) == (k : Int)) = true := by
  subst h; simp; omega

theorem u8_ne {c : UInt8} {k : Nat} (hk : k < 256) (h : c ≠ UInt8.ofNat k) : ((c.toNat : Int) == (k : Int)) = false := by
  simp
  intro e
  exact h (UInt8.toNat_inj.1 (by simp; omega))

theorem at_len (pre : List UInt8) (c : UInt8) (l : List UInt8) : (pre ++ c :: l)[pre.length]? = some c := by simp

/-- What holds at the head of valueEnd's loop: the place t, the depth d. -/
def VInv (L S : List UInt8) (x : UInt8) (N t d : Nat) : Prop :=
  ∃ pre R : List UInt8, t = pre.length ∧ L = pre ++ (R ++ x :: S) ∧ vs 0 d R = some (0, 1) ∧ t + R.length + 1 = N

set_option maxHeartbeats 2000000 in
/-- valueEnd at a written value's opening bracket: the place behind its last sign. -/
theorem valueEnd_core (g n cap : Nat) (L : List UInt8) (hL : L.length = n) (hnc : n ≤ cap) (hn : n ≤ 16777216) (w : World)
    (HC : Hid (∀ t b, L[t]? = some b → w.cell? ⟨g, t, none⟩ = some (.int .u8 (b.toNat : Int)))) (p : Nat) (P M S : List UInt8) (x : UInt8) (hp : P.length = p)
    (HL : Hid (L = P ++ (91 :: M ++ x :: S))) (HV : Hid (vs 0 0 (91 :: M) = some (0, 1))) (hx : x = 125 ∨ x = 93) :
    Calls Try.prog 35 #[.slice (some ⟨g, 0, none⟩) n cap, .int .i64 p] w fun e w' => e = .returned (.int .i64 ((p + M.length + 2 : Nat) : Int)) ∧ w' = w := by
  have hlen : n = p + M.length + 2 + S.length := by rw [← hL, HL.out]; simp [hp]; omega
  have hc0 : w.cell? ⟨g, p, none⟩ = some (.int .u8 91) := by
    have := HC.out p 91 (by rw [HL.out, ← hp]; exact at_len P 91 _)
    simpa using this
  have HLL : Hid (L.length = n) := hL
  have HP : Hid (P.length = p) := hp
  have hpn : (p : Int) < (n : Int) := by omega
  have hpn2 : p < n := by omega
  clear hL hp
  have HLEN : Hid (n = p + M.length + 2 + S.length) := hlen
  clear hlen
  have hge : decide (n ≤ p) = false := decide_eq_false (by omega)
  go_enter Try.func35, Try.ntmps35
  go_wp2
  clear hc0
  go_loop [1, 5] (fun s1 s5 => ∃ t d : Nat, s1 = .int .i64 t ∧ s5 = .int .i64 d ∧ d ≤ t ∧ t < n ∧ VInv L S x (p + M.length + 2) t d) (fun s1 _ => n - (intOf s1).toNat)
  case atStart => exact ⟨p, 0, rfl, rfl, by omega, by omega, P, 91 :: M, HP.out.symm, HL.out, HV.out, by simp; omega⟩
  case round =>
    obtain ⟨t, d, rfl, rfl, hdt, htn, pre, R, ht, hLs, hvs, hlen⟩ := hrel
    have htn2 : (t : Int) < (n : Int) := by omega
    cases R with
    | nil =>
      have hcell := HC.out t x (by rw [hLs, ht]; exact at_len pre x _)
      rw [vs_nil] at hvs
      have hd1 : d = 1 := by have := congrArg Prod.snd (Option.some.inj hvs); simpa using this
      subst hd1
      have hres : t + 1 = p + M.length + 2 := by simpa using hlen
      have HR : Hid (t + 1 = p + M.length + 2) := hres
      clear hvs hlen hLs ht hres
      rcases hx with rfl | rfl
      · simp only [show ((125 : UInt8).toNat : Int) = 125 from rfl] at hcell
        go_wp2
        go_ret
        exact ⟨ret_int (by have := HR.out; omega), rfl⟩
      · simp only [show ((93 : UInt8).toNat : Int) = 93 from rfl] at hcell
        go_wp2
        go_ret
        exact ⟨ret_int (by have := HR.out; omega), rfl⟩
    | cons c R =>
      have hcell := HC.out t c (by rw [hLs, ht]; exact at_len pre c _)
      have hlen2 : t + R.length + 2 = p + M.length + 2 := by simp at hlen; omega
      have htl : t + 1 < n := by have := HLEN.out; omega
      have hpre1 : L = (pre ++ [c]) ++ (R ++ x :: S) := by rw [hLs]; simp
      have hpl : t + 1 = (pre ++ [c]).length := by rw [ht]; simp
      by_cases h34 : c = 34
      · subst h34
        rw [vs_out, if_pos rfl] at hvs
        obtain ⟨E, S2, rfl, hq, hv2⟩ := vs_string (e := (0, 1)) rfl R d false (by simpa using hvs)
        have HS : Hid (IsStr L t (t + 1 + E.length)) := by
          have := isStr_of pre E (S2 ++ x :: S) hq
          rw [← ht] at this
          have e : pre ++ 34 :: (E ++ 34 :: (S2 ++ x :: S)) = L := by rw [hLs]; simp
          rw [e] at this; exact this
        have H2 : VInv L S x (p + M.length + 2) (t + E.length + 2) d :=
          ⟨pre ++ 34 :: (E ++ [34]), S2, by rw [ht]; simp; omega, by rw [hLs]; simp, hv2, by simp at hlen2; omega⟩
        have hle : t + E.length + 2 < n := by have := HLEN.out; simp at hlen2; omega
        simp only [show ((34 : UInt8).toNat : Int) = 34 from rfl] at hcell
        clear hvs hlen hLs ht hlen2 hpre1 hpl hq hv2
        go_wp2_with (go_at_call 14; refine (stringEnd_any g n cap L HLL.out hnc hn _ HC t (t + 1 + E.length) HS.out).mono ?_; rintro e w1 ⟨rfl, rfl⟩)
        go_round
        case rel => exact ⟨t + E.length + 2, d, by go_num, rfl, by omega, hle, H2⟩
        case measure => simp [intOf]; omega
      · have n34 := u8_ne (k := 34) (by omega) h34
        rw [vs_out, if_neg h34] at hvs
        by_cases ho : c = 123 ∨ c = 91
        · rw [if_pos ho] at hvs
          have H2 : VInv L S x (p + M.length + 2) (t + 1) (d + 1) := ⟨_, R, hpl, hpre1, hvs, by omega⟩
          clear hvs hlen hLs ht hlen2 hpre1 hpl h34 n34
          rcases ho with rfl | rfl
          · simp only [show ((123 : UInt8).toNat : Int) = 123 from rfl] at hcell
            go_wp2
            go_round
            case rel => exact ⟨t + 1, d + 1, by go_num, by go_num, by omega, htl, H2⟩
            case measure => simp [intOf]; omega
          · simp only [show ((91 : UInt8).toNat : Int) = 91 from rfl] at hcell
            go_wp2
            go_round
            case rel => exact ⟨t + 1, d + 1, by go_num, by go_num, by omega, htl, H2⟩
            case measure => simp [intOf]; omega
        · rw [if_neg ho] at hvs
          by_cases hcl : c = 125 ∨ c = 93
          · rw [if_pos hcl] at hvs
            by_cases hd : d ≤ 1
            · rw [if_pos hd] at hvs; cases hvs
            · rw [if_neg hd] at hvs
              obtain ⟨d', rfl⟩ : ∃ d', d = d' + 2 := ⟨d - 2, by omega⟩
              have H2 : VInv L S x (p + M.length + 2) (t + 1) (d' + 1) := ⟨_, R, hpl, hpre1, hvs, by omega⟩
              clear hvs hlen hLs ht hlen2 hpre1 hpl h34 n34 ho hd
              rcases hcl with rfl | rfl
              · simp only [show ((125 : UInt8).toNat : Int) = 125 from rfl] at hcell
                go_wp2
                go_round
                case rel => exact ⟨t + 1, d' + 1, by go_num, by go_num, by omega, htl, H2⟩
                case measure => simp [intOf]; omega
              · simp only [show ((93 : UInt8).toNat : Int) = 93 from rfl] at hcell
                go_wp2
                go_round
                case rel => exact ⟨t + 1, d' + 1, by go_num, by go_num, by omega, htl, H2⟩
                case measure => simp [intOf]; omega
          · rw [if_neg hcl] at hvs
            simp only [not_or] at ho hcl
            have n123 := u8_ne (k := 123) (by omega) ho.1
            have n91 := u8_ne (k := 91) (by omega) ho.2
            have n125 := u8_ne (k := 125) (by omega) hcl.1
            have n93 := u8_ne (k := 93) (by omega) hcl.2
            have H2 : VInv L S x (p + M.length + 2) (t + 1) d := ⟨_, R, hpl, hpre1, hvs, by omega⟩
            clear hvs hlen hLs ht hlen2 hpre1 hpl h34 ho hcl
            go_wp2
            go_round
            case rel => exact ⟨t + 1, d, by go_num, rfl, by omega, htl, H2⟩
            case measure => simp [intOf]; omega

end Go.Proofs.Qxb6000374a
