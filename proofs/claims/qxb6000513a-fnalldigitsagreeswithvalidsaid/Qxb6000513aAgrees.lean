/-
  THE WALKS of hasByte and of the law FnAllDigitsAgreesWithValid (seat b6000513a).
-/
import Derived.Test.Qxb6000513aModel
import Derived.Test.Qxb6000513aLaws
namespace Go.Proofs.Qxb6000513a
open Go.RowKit

/-- The byte c (as a number) stands somewhere in s. -/
def hasB (s : ByteArray) (c : Int) : Bool := s.data.toList.any fun b => (b.toNat : Int) == c

theorem hasB_no {s : ByteArray} {c : UInt8} (h : hasB s (c.toNat : Int) = false) : c ∉ s.data.toList := by
  intro hc
  unfold hasB at h
  rw [List.any_eq_false] at h
  exact h c hc (by simp)

theorem hasB_in {s : ByteArray} {c : UInt8} (h : hasB s (c.toNat : Int) = true) : c ∈ s.data.toList := by
  unfold hasB at h
  rw [List.any_eq_true] at h
  obtain ⟨b, hb, e⟩ := h
  have : b = c := UInt8.toNat_inj.1 (by simp at e; omega)
  exact this ▸ hb

theorem hasB_yes {s : ByteArray} {c : Int} {k : Nat} (hk : k < s.size) (h : ((s[k].toNat : Int) == c) = true) : hasB s c = true := by
  unfold hasB
  rw [List.any_eq_true]
  refine ⟨s[k], ?_, h⟩
  have : s[k] = s.data.toList[k]'(by rw [← Lib.size_eq]; exact hk) := by simp; rfl
  rw [this]; exact List.getElem_mem _

theorem hasB_none {s : ByteArray} {c : Int} (h : ∀ k (hk : k < s.size), ((s[k].toNat : Int) == c) = false) : hasB s c = false := by
  unfold hasB
  rw [List.any_eq_false]
  intro b hb
  obtain ⟨k, hk, rfl⟩ := List.getElem_of_mem hb
  have hk' : k < s.size := by rw [Lib.size_eq]; exact hk
  have := h k hk'
  have e : s[k] = s.data.toList[k] := by simp; rfl
  rw [e] at this
  simpa using this

set_option maxHeartbeats 400000 in
theorem hasByte_any (s : ByteArray) (c : Int) (hs : s.size ≤ 2097152) (w : World) :
    Calls Try.prog 20 #[.string s, .int .u8 c] w fun e w' => e = .returned (.bool (hasB s c)) ∧ w' = w := by
  go_enter Try.func20, Try.ntmps20
  go_wp2
  go_loop [5] (fun i => ∃ k : Nat, k ≤ s.size ∧ i = .int .i64 k ∧ Hid (∀ j (hj : j < s.size), j < k → ((s[j].toNat : Int) == c) = false)) (fun i => s.size - (intOf i).toNat)
  case atStart => exact ⟨0, Nat.zero_le _, rfl, fun j _ h => absurd h (Nat.not_lt_zero _)⟩
  case round =>
    obtain ⟨k, hk, rfl, hh⟩ := hrel
    by_cases hlt : k < s.size
    · by_cases hc : ((s[k].toNat : Int) == c) = true
      · have e1 := hasB_yes hlt hc
        go_wp2
        go_ret
        first | exact ⟨rfl, rfl⟩ | (rw [e1]; exact ⟨rfl, rfl⟩)
      · have hc' : ((s[k].toNat : Int) == c) = false := by simpa using hc
        clear hc
        have H2 : Hid (∀ j (hj : j < s.size), j < k + 1 → ((s[j].toNat : Int) == c) = false) := by
          intro j hj h
          rcases Nat.lt_succ_iff_lt_or_eq.1 h with h1 | rfl
          · exact hh.out j hj h1
          · exact hc'
        clear hh
        go_wp2
        go_round
        case rel => exact ⟨k + 1, by omega, by go_num, H2⟩
        case measure => simp [intOf]; omega
    · have e1 : hasB s c = false := hasB_none fun j hj => hh.out j hj (by omega)
      clear hh
      go_wp2
      go_ret
      first | exact ⟨rfl, rfl⟩ | (rw [e1]; exact ⟨rfl, rfl⟩)


theorem bytes19_yes (s : ByteArray) (hbig : s.size ≤ 1048576) (w : World) :
    Calls Try.prog 19 #[.string s] w fun e w' => e = .returned (.bool true) ∧ w' = w := by
  go_enter Try.func19, Try.ntmps19
  go_wp2
  go_ret
  exact ⟨rfl, rfl⟩

theorem agrees_dot {s : ByteArray} (h : hasB s 46 = true) : digs s.data.toList = false := digs_no_dot (hasB_in (c := 46) h)

theorem agrees_sign {s : ByteArray} (hp : 0 < s.size) (h : isSign s[0] = true) : digs s.data.toList = false := by
  rw [list_cons s hp]; exact digs_sign h

theorem agrees_bare {s : ByteArray} (hd : hasB s 46 = false) (hp : 0 < s.size) (h : isSign s[0] = false) : validL s.data.toList = digs s.data.toList :=
  digs_plain (hasB_no (c := 46) hd) (fun c t e => by rw [list_cons s hp] at e; cases e; exact h)

theorem agrees_none {s : ByteArray} (h : s.toList.isEmpty = true) : validL s.data.toList = digs s.data.toList := by
  rw [empty_list h]; rfl

set_option maxHeartbeats 1000000 in
/-- FnAllDigitsAgreesWithValid returns true. -/
theorem agrees_any (s : ByteArray) (hm : s.size ≤ maxLen) (w : World) :
    Calls Try.prog 7 #[.string s] w fun e w' => e = .returned (.bool true) ∧ Qt w w' := by
  unfold maxLen at hm
  by_cases hbig : s.size ≤ 1048576
  · have hs : s.size ≤ 2097152 := by omega
    cases hd : hasB s 46
    · cases h0 : s.toList.isEmpty
      · have hp := nonempty_size h0
        cases hsg : isSign s[0]
        · have E : Hid (validL s.data.toList = digs s.data.toList) := agrees_bare hd hp hsg
          go_enter Try.func7, Try.ntmps7
          go_wp2_with (first
            | (go_at_call 19; refine (bytes19_yes _ hbig _).mono ?_; rintro e w' ⟨rfl, rfl⟩)
            | (go_at_call 20; refine (hasByte_any _ _ hs _).mono ?_; rintro e w' ⟨rfl, rfl⟩)
            | (go_at_call 15; refine (isSign_any _ _).mono ?_; rintro e w' ⟨rfl, rfl⟩)
            | (go_at_call 17; refine (zzAllDigits _ hs _).mono ?_; rintro e w' ⟨rfl, rfl⟩)
            | (go_at_call 12; refine (valid_at _ _ E.out hs _).mono ?_; rintro e w1 ⟨rfl, hq⟩))
          go_ret
          exact ⟨rfl, hq⟩
        · have E1 := agrees_sign hp hsg
          go_enter Try.func7, Try.ntmps7
          go_wp2_with (first
            | (go_at_call 19; refine (bytes19_yes _ hbig _).mono ?_; rintro e w' ⟨rfl, rfl⟩)
            | (go_at_call 20; refine (hasByte_any _ _ hs _).mono ?_; rintro e w' ⟨rfl, rfl⟩)
            | (go_at_call 15; refine (isSign_any _ _).mono ?_; rintro e w' ⟨rfl, rfl⟩)
            | (go_at_call 17; refine (zzAllDigits _ hs _).mono ?_; rintro e w' ⟨rfl, rfl⟩))
          go_ret
          exact ⟨rfl, Qt.refl _⟩
      · have E : Hid (validL s.data.toList = digs s.data.toList) := agrees_none h0
        go_enter Try.func7, Try.ntmps7
        go_wp2_with (first
          | (go_at_call 19; refine (bytes19_yes _ hbig _).mono ?_; rintro e w' ⟨rfl, rfl⟩)
          | (go_at_call 20; refine (hasByte_any _ _ hs _).mono ?_; rintro e w' ⟨rfl, rfl⟩)
          | (go_at_call 15; refine (isSign_any _ _).mono ?_; rintro e w' ⟨rfl, rfl⟩)
          | (go_at_call 17; refine (zzAllDigits _ hs _).mono ?_; rintro e w' ⟨rfl, rfl⟩)
          | (go_at_call 12; refine (valid_at _ _ E.out hs _).mono ?_; rintro e w1 ⟨rfl, hq⟩))
        go_ret
        exact ⟨rfl, hq⟩
    · have E1 := agrees_dot hd
      go_enter Try.func7, Try.ntmps7
      go_wp2_with (first
        | (go_at_call 19; refine (bytes19_yes _ hbig _).mono ?_; rintro e w' ⟨rfl, rfl⟩)
        | (go_at_call 20; refine (hasByte_any _ _ hs _).mono ?_; rintro e w' ⟨rfl, rfl⟩)
        | (go_at_call 15; refine (isSign_any _ _).mono ?_; rintro e w' ⟨rfl, rfl⟩)
        | (go_at_call 17; refine (zzAllDigits _ hs _).mono ?_; rintro e w' ⟨rfl, rfl⟩))
      go_ret
      exact ⟨rfl, Qt.refl _⟩
  · go_enter Try.func7, Try.ntmps7
    go_wp2
    go_ret
    exact ⟨rfl, Qt.refl _⟩

end Go.Proofs.Qxb6000513a
