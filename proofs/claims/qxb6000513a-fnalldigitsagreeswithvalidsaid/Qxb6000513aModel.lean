/-
  THE WALKS of validModel and hasByte (seat b6000513a).
-/
import Derived.Test.Qxb6000513aValid
namespace Go.Proofs.Qxb6000513a
open Go.RowKit

theorem isDig_any (c : UInt8) (w : World) :
    Calls Try.prog 24 #[.int .u8 (c.toNat : Int)] w fun e w' => e = .returned (.bool (isDig c)) ∧ w' = w := by
  cases hc : isDig c
  · rcases dig_not hc with h1 | h1
    · clear hc
      go_enter Try.func24, Try.ntmps24
      go_wp2
      go_ret
      exact ⟨rfl, rfl⟩
    · clear hc
      have h2 : (48 : Int) ≤ (c.toNat : Int) := by omega
      have h3 : decide ((c.toNat : Int) ≤ 57) = false := decide_eq_false (by omega)
      go_enter Try.func24, Try.ntmps24
      go_wp2
      go_ret
      exact ⟨rfl, rfl⟩
  · obtain ⟨h1, h2⟩ := dig_bounds hc
    clear hc
    go_enter Try.func24, Try.ntmps24
    go_wp2
    go_ret
    exact ⟨rfl, rfl⟩

theorem isSign_any (c : UInt8) (w : World) :
    Calls Try.prog 15 #[.int .u8 (c.toNat : Int)] w fun e w' => e = .returned (.bool (isSign c)) ∧ w' = w := by
  cases h1 : ((c.toNat : Int) == 43)
  · cases h2 : ((c.toNat : Int) == 45)
    · have e1 := isSign_not h1 h2
      rw [e1]
      clear e1
      go_enter Try.func15, Try.ntmps15
      go_wp2
      go_ret
      exact ⟨rfl, rfl⟩
    · have e1 : isSign c = true := isSign_of (.inr h2)
      rw [e1]
      clear e1
      go_enter Try.func15, Try.ntmps15
      go_wp2
      go_ret
      exact ⟨rfl, rfl⟩
  · have e1 : isSign c = true := isSign_of (.inl h1)
    rw [e1]
    clear e1
    go_enter Try.func15, Try.ntmps15
    go_wp2
    go_ret
    exact ⟨rfl, rfl⟩

theorem drop_at (s : ByteArray) (k : Nat) (hk : k < s.size) : s.data.toList.drop k = s[k] :: s.data.toList.drop (k + 1) := by
  have hk' : k < s.data.toList.length := by rw [← Lib.size_eq]; exact hk
  rw [List.drop_eq_getElem_cons hk']
  have e := data_at s k hk
  rw [List.getElem?_eq_getElem hk'] at e
  rw [Option.some.inj e]

theorem run_stop {s : ByteArray} {k st : Nat} (hk : k < s.size) (h : run 0 s.data.toList = run st (s.data.toList.drop k)) (hn : step st s[k] = none) : run 0 s.data.toList = false := by
  rw [h, drop_at s k hk, run_cons, hn]

theorem run_go {s : ByteArray} {k st st' : Nat} (hk : k < s.size) (h : run 0 s.data.toList = run st (s.data.toList.drop k)) (hn : step st s[k] = some st') : run 0 s.data.toList = run st' (s.data.toList.drop (k + 1)) := by
  rw [h, drop_at s k hk, run_cons, hn]

theorem run_out {s : ByteArray} {k st : Nat} (hk : ¬ k < s.size) (h : run 0 s.data.toList = run st (s.data.toList.drop k)) : run 0 s.data.toList = decide (st = 2 ∨ st = 4) := by
  rw [h, List.drop_of_length_le (by rw [← Lib.size_eq]; omega)]; rfl

theorem dot_of {c : UInt8} (h : ((c.toNat : Int) == 46) = true) : c = 46 := by
  simp only [beq_iff_eq] at h
  exact UInt8.toNat_inj.1 (by show c.toNat = 46; omega)

theorem dot_not {c : UInt8} (h : ((c.toNat : Int) == 46) = false) : ¬ c = 46 := by
  simp only [beq_eq_false_iff_ne] at h
  exact fun e => h (by rw [e]; rfl)

set_option maxHeartbeats 2000000 in
theorem model_any (s : ByteArray) (hs : s.size ≤ 2097152) (w : World) :
    Calls Try.prog 13 #[.string s] w fun e w' => e = .returned (.bool (run 0 s.data.toList)) ∧ w' = w := by
  go_enter Try.func13, Try.ntmps13
  go_wp2
  go_loop [3, 4, 5] (fun q i _ => ∃ k st : Nat, k ≤ s.size ∧ st ≤ 4 ∧ i = .int .i64 k ∧ q = .int .i64 st ∧ Hid (run 0 s.data.toList = run st (s.data.toList.drop k))) (fun _ i _ => s.size - (intOf i).toNat)
  case atStart => exact ⟨0, 0, Nat.zero_le _, by omega, rfl, rfl, rfl⟩
  case round =>
    obtain ⟨k, st, hk, hst, rfl, rfl, hh⟩ := hrel
    by_cases hlt : k < s.size
    · rcases (show st = 0 ∨ st = 1 ∨ st = 2 ∨ st = 3 ∨ st = 4 from by omega) with rfl | rfl | rfl | rfl | rfl
      · cases hsg : isSign s[k]
        · cases hd : isDig s[k]
          · have e1 := run_stop hlt hh.out (by simp [step, hsg, hd])
            clear hh hst
            go_wp2_with (first
              | (go_at_call 15; refine (isSign_any _ _).mono ?_; rintro e w' ⟨rfl, rfl⟩)
              | (go_at_call 24; refine (isDig_any _ _).mono ?_; rintro e w' ⟨rfl, rfl⟩))
            go_ret
            first | exact ⟨rfl, rfl⟩ | (rw [e1]; exact ⟨rfl, rfl⟩)
          · have h2 := run_go hlt hh.out (st' := 2) (by simp [step, hsg, hd])
            have H2 : Hid (run 0 s.data.toList = run 2 (s.data.toList.drop (k + 1))) := h2
            clear hh h2 hst
            go_wp2_with (first
              | (go_at_call 15; refine (isSign_any _ _).mono ?_; rintro e w' ⟨rfl, rfl⟩)
              | (go_at_call 24; refine (isDig_any _ _).mono ?_; rintro e w' ⟨rfl, rfl⟩))
            go_round
            case rel => exact ⟨k + 1, 2, by omega, by omega, by go_num, rfl, H2⟩
            case measure => simp [intOf]; omega
        · have h2 := run_go hlt hh.out (st' := 1) (by simp [step, hsg])
          have H2 : Hid (run 0 s.data.toList = run 1 (s.data.toList.drop (k + 1))) := h2
          clear hh h2 hst
          go_wp2_with (first
            | (go_at_call 15; refine (isSign_any _ _).mono ?_; rintro e w' ⟨rfl, rfl⟩)
            | (go_at_call 24; refine (isDig_any _ _).mono ?_; rintro e w' ⟨rfl, rfl⟩))
          go_round
          case rel => exact ⟨k + 1, 1, by omega, by omega, by go_num, rfl, H2⟩
          case measure => simp [intOf]; omega
      · cases hd : isDig s[k]
        · have e1 := run_stop hlt hh.out (by simp [step, hd])
          clear hh hst
          go_wp2_with (first
            | (go_at_call 15; refine (isSign_any _ _).mono ?_; rintro e w' ⟨rfl, rfl⟩)
            | (go_at_call 24; refine (isDig_any _ _).mono ?_; rintro e w' ⟨rfl, rfl⟩))
          go_ret
          first | exact ⟨rfl, rfl⟩ | (rw [e1]; exact ⟨rfl, rfl⟩)
        · have h2 := run_go hlt hh.out (st' := 2) (by simp [step, hd])
          have H2 : Hid (run 0 s.data.toList = run 2 (s.data.toList.drop (k + 1))) := h2
          clear hh h2 hst
          go_wp2_with (first
            | (go_at_call 15; refine (isSign_any _ _).mono ?_; rintro e w' ⟨rfl, rfl⟩)
            | (go_at_call 24; refine (isDig_any _ _).mono ?_; rintro e w' ⟨rfl, rfl⟩))
          go_round
          case rel => exact ⟨k + 1, 2, by omega, by omega, by go_num, rfl, H2⟩
          case measure => simp [intOf]; omega
      · cases hdot : ((s[k].toNat : Int) == 46)
        · cases hd : isDig s[k]
          · have e1 := run_stop hlt hh.out (by simp [step, dot_not hdot, hd])
            clear hh hst
            go_wp2_with (first
              | (go_at_call 15; refine (isSign_any _ _).mono ?_; rintro e w' ⟨rfl, rfl⟩)
              | (go_at_call 24; refine (isDig_any _ _).mono ?_; rintro e w' ⟨rfl, rfl⟩))
            go_ret
            first | exact ⟨rfl, rfl⟩ | (rw [e1]; exact ⟨rfl, rfl⟩)
          · have h2 := run_go hlt hh.out (st' := 2) (by simp [step, dot_not hdot, hd])
            have H2 : Hid (run 0 s.data.toList = run 2 (s.data.toList.drop (k + 1))) := h2
            clear hh h2 hst
            go_wp2_with (first
              | (go_at_call 15; refine (isSign_any _ _).mono ?_; rintro e w' ⟨rfl, rfl⟩)
              | (go_at_call 24; refine (isDig_any _ _).mono ?_; rintro e w' ⟨rfl, rfl⟩))
            go_round
            case rel => exact ⟨k + 1, 2, by omega, by omega, by go_num, rfl, H2⟩
            case measure => simp [intOf]; omega
        · have h2 := run_go hlt hh.out (st' := 3) (by simp [step, dot_of hdot])
          have H2 : Hid (run 0 s.data.toList = run 3 (s.data.toList.drop (k + 1))) := h2
          clear hh h2 hst
          go_wp2_with (first
            | (go_at_call 15; refine (isSign_any _ _).mono ?_; rintro e w' ⟨rfl, rfl⟩)
            | (go_at_call 24; refine (isDig_any _ _).mono ?_; rintro e w' ⟨rfl, rfl⟩))
          go_round
          case rel => exact ⟨k + 1, 3, by omega, by omega, by go_num, rfl, H2⟩
          case measure => simp [intOf]; omega
      · cases hd : isDig s[k]
        · have e1 := run_stop hlt hh.out (by simp [step, hd])
          clear hh hst
          go_wp2_with (first
            | (go_at_call 15; refine (isSign_any _ _).mono ?_; rintro e w' ⟨rfl, rfl⟩)
            | (go_at_call 24; refine (isDig_any _ _).mono ?_; rintro e w' ⟨rfl, rfl⟩))
          go_ret
          first | exact ⟨rfl, rfl⟩ | (rw [e1]; exact ⟨rfl, rfl⟩)
        · have h2 := run_go hlt hh.out (st' := 4) (by simp [step, hd])
          have H2 : Hid (run 0 s.data.toList = run 4 (s.data.toList.drop (k + 1))) := h2
          clear hh h2 hst
          go_wp2_with (first
            | (go_at_call 15; refine (isSign_any _ _).mono ?_; rintro e w' ⟨rfl, rfl⟩)
            | (go_at_call 24; refine (isDig_any _ _).mono ?_; rintro e w' ⟨rfl, rfl⟩))
          go_round
          case rel => exact ⟨k + 1, 4, by omega, by omega, by go_num, rfl, H2⟩
          case measure => simp [intOf]; omega
      · cases hd : isDig s[k]
        · have e1 := run_stop hlt hh.out (by simp [step, hd])
          clear hh hst
          go_wp2_with (first
            | (go_at_call 15; refine (isSign_any _ _).mono ?_; rintro e w' ⟨rfl, rfl⟩)
            | (go_at_call 24; refine (isDig_any _ _).mono ?_; rintro e w' ⟨rfl, rfl⟩))
          go_ret
          first | exact ⟨rfl, rfl⟩ | (rw [e1]; exact ⟨rfl, rfl⟩)
        · have h2 := run_go hlt hh.out (st' := 4) (by simp [step, hd])
          have H2 : Hid (run 0 s.data.toList = run 4 (s.data.toList.drop (k + 1))) := h2
          clear hh h2 hst
          go_wp2_with (first
            | (go_at_call 15; refine (isSign_any _ _).mono ?_; rintro e w' ⟨rfl, rfl⟩)
            | (go_at_call 24; refine (isDig_any _ _).mono ?_; rintro e w' ⟨rfl, rfl⟩))
          go_round
          case rel => exact ⟨k + 1, 4, by omega, by omega, by go_num, rfl, H2⟩
          case measure => simp [intOf]; omega
    · have e1 := run_out hlt hh.out
      clear hh
      rcases (show st = 0 ∨ st = 1 ∨ st = 2 ∨ st = 3 ∨ st = 4 from by omega) with rfl | rfl | rfl | rfl | rfl
      · go_wp2
        go_ret
        first | exact ⟨rfl, rfl⟩ | (rw [e1]; exact ⟨rfl, rfl⟩)
      · go_wp2
        go_ret
        first | exact ⟨rfl, rfl⟩ | (rw [e1]; exact ⟨rfl, rfl⟩)
      · go_wp2
        go_ret
        first | exact ⟨rfl, rfl⟩ | (rw [e1]; exact ⟨rfl, rfl⟩)
      · go_wp2
        go_ret
        first | exact ⟨rfl, rfl⟩ | (rw [e1]; exact ⟨rfl, rfl⟩)
      · go_wp2
        go_ret
        first | exact ⟨rfl, rfl⟩ | (rw [e1]; exact ⟨rfl, rfl⟩)

end Go.Proofs.Qxb6000513a
