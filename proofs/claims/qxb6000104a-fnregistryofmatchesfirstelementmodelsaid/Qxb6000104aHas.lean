/-
  THE WALK of zzHasByte: it answers 'hasB'.
-/
import Derived.Test.Qxb6000104aLib
import Derived.Test.Qxb6000104aJoin
namespace Go.Proofs.Qxb6000104a
open Go.RowKit

theorem hasB_yes {s : ByteArray} {c : Int} {k : Nat} (hk : k < s.size) (h : ((s[k].toNat : Int) == c) = true) : hasB s c = true := by
  unfold hasB
  rw [List.any_eq_true]
  refine ⟨s[k], ?_, h⟩
  have : s[k] = s.data.toList[k]'(by rw [← Lib.size_eq]; exact hk) := by simp; rfl
  rw [this]; exact List.getElem_mem _

theorem hasB_none {s : ByteArray} {c : Int} (h : ∀ k (hk : k < s.size), ((s[k].toNat : Int) == c) = false) : hasB s c = false := by
  unfold hasB
  rw [List.any_eq_false]
  intro b hb
  obtain ⟨k, hk, rfl⟩ := List.getElem_of_mem hb
  have hk' : k < s.size := by rw [Lib.size_eq]; exact hk
  have := h k hk'
  have e : s[k] = s.data.toList[k] := by simp; rfl
  rw [e] at this
  simpa using this

set_option maxHeartbeats 400000 in
theorem hasByte_any (s : ByteArray) (c : Int) (hs : s.size ≤ 2097152) (w : World) :
    Calls Try.prog 13 #[.string s, .int .u8 c] w fun e w' => e = .returned (.bool (hasB s c)) ∧ w' = w := by
  go_enter Try.func13, Try.ntmps13
  go_wp2
  go_loop [5] (fun i => ∃ k : Nat, k ≤ s.size ∧ i = .int .i64 k ∧ Hid (∀ j (hj : j < s.size), j < k → ((s[j].toNat : Int) == c) = false)) (fun i => s.size - (intOf i).toNat)
  case atStart => exact ⟨0, Nat.zero_le _, rfl, fun j _ h => absurd h (Nat.not_lt_zero _)⟩
  case round =>
    obtain ⟨k, hk, rfl, hh⟩ := hrel
    by_cases hlt : k < s.size
    · by_cases hc : ((s[k].toNat : Int) == c) = true
      · have e1 := hasB_yes hlt hc
        go_wp2
        go_ret
        first | exact ⟨rfl, rfl⟩ | (rw [e1]; exact ⟨rfl, rfl⟩)
      · have hc' : ((s[k].toNat : Int) == c) = false := by simpa using hc
        clear hc
        have H2 : Hid (∀ j (hj : j < s.size), j < k + 1 → ((s[j].toNat : Int) == c) = false) := by
          intro j hj h
          rcases Nat.lt_succ_iff_lt_or_eq.1 h with h1 | rfl
          · exact hh.out j hj h1
          · exact hc'
        clear hh
        go_wp2
        go_round
        case rel => exact ⟨k + 1, by omega, by go_num, H2⟩
        case measure => simp [intOf]; omega
    · have e1 : hasB s c = false := hasB_none fun j hj => hh.out j hj (by omega)
      clear hh
      go_wp2
      go_ret
      first | exact ⟨rfl, rfl⟩ | (rw [e1]; exact ⟨rfl, rfl⟩)

end Go.Proofs.Qxb6000104a
