/-
  THE WALKS of allDigits, Valid, hasByte (seat b6000513a).
-/
import Derived.Test.Qxb6000513aLib
import Derived.Test.Qxb6000513aPlain
import Derived.Deep.RegionWith
import Derived.Deep.Draws
namespace Go.Proofs.Qxb6000513a
open Go.RowKit

/-- w' is w but for the count of draws. -/
def Qt (w w' : World) : Prop := ∃ n, w' = w.drewN n

theorem Qt.refl (w : World) : Qt w w := ⟨0, rfl⟩
theorem Qt.drew {w w' : World} (h : Qt w w') : Qt w w'.drew := by obtain ⟨n, rfl⟩ := h; exact ⟨n + 1, rfl⟩
theorem Qt.trans {a b c : World} (h : Qt a b) (k : Qt b c) : Qt a c := by
  obtain ⟨n, rfl⟩ := h; obtain ⟨m, rfl⟩ := k
  exact ⟨n + m, by simp [World.drewN, Nat.add_assoc]⟩
theorem Qt.grown {w w' : World} (h : Qt w w') : Grown w w' := by
  obtain ⟨n, rfl⟩ := h; exact (Grown.refl w : Grown w w)

theorem data_at (s : ByteArray) (k : Nat) (hk : k < s.size) : s.data.toList[k]? = some s[k] := by
  rw [List.getElem?_eq_getElem (by rw [← Lib.size_eq]; exact hk)]; simp; rfl

theorem digs_empty {s : ByteArray} (h : s.toList.isEmpty = true) : digs s.data.toList = false := by
  rw [Lib.toList_data] at h
  simp [digs, h]

theorem digs_bad {s : ByteArray} {k : Nat} (hk : k < s.size) (h : isDig s[k] = false) : digs s.data.toList = false := by
  unfold digs
  rw [Bool.and_eq_false_iff]
  right
  rw [List.all_eq_false]
  exact ⟨s[k], List.mem_of_getElem? (data_at s k hk), by simp [h]⟩

theorem digs_all {s : ByteArray} (h0 : s.toList.isEmpty = false) (h : ∀ k (hk : k < s.size), isDig s[k] = true) : digs s.data.toList = true := by
  unfold digs
  rw [Lib.toList_data] at h0
  rw [h0, Bool.not_false, Bool.true_and, List.all_eq_true]
  intro b hb
  obtain ⟨k, hk, e⟩ := List.getElem_of_mem hb
  have hk' : k < s.size := by rw [Lib.size_eq]; exact hk
  have := h k hk'
  have e2 := data_at s k hk'
  rw [List.getElem?_eq_getElem hk, e] at e2
  rw [Option.some.inj e2]; exact this

theorem dig_bounds {c : UInt8} (h : isDig c = true) : (48 : Int) ≤ (c.toNat : Int) ∧ (c.toNat : Int) ≤ 57 := by
  unfold isDig at h
  simp only [Bool.and_eq_true, decide_eq_true_eq] at h
  omega

theorem dig_not {c : UInt8} (h : isDig c = false) : (c.toNat : Int) < 48 ∨ (57 : Int) < (c.toNat : Int) := by
  unfold isDig at h
  simp only [Bool.and_eq_false_iff, decide_eq_false_iff_not] at h
  omega

set_option maxHeartbeats 400000 in
theorem allDigits_any (s : ByteArray) (hs : s.size ≤ 2097152) (w : World) :
    Calls Try.prog 23 #[.string s] w fun e w' => e = .returned (.bool (digs s.data.toList)) ∧ w' = w := by
  cases h0 : s.toList.isEmpty
  · go_enter Try.func23, Try.ntmps23
    go_wp2
    go_loop [3] (fun i => ∃ k : Nat, k ≤ s.size ∧ i = .int .i64 k ∧ Hid (∀ j (hj : j < s.size), j < k → isDig s[j] = true)) (fun i => s.size - (intOf i).toNat)
    case atStart => exact ⟨0, Nat.zero_le _, rfl, fun j _ h => absurd h (Nat.not_lt_zero _)⟩
    case round =>
      obtain ⟨k, hk, rfl, hh⟩ := hrel
      by_cases hlt : k < s.size
      · cases hc : isDig s[k]
        · have e1 := digs_bad hlt hc
          rcases dig_not hc with h1 | h1
          · clear hc hh
            go_wp2
            go_ret
            first | exact ⟨rfl, rfl⟩ | (rw [e1]; exact ⟨rfl, rfl⟩)
          · clear hc hh
            have h2 : ¬ (s[k].toNat : Int) < 48 := by omega
            go_wp2
            go_ret
            first | exact ⟨rfl, rfl⟩ | (rw [e1]; exact ⟨rfl, rfl⟩)
        · have H2 : Hid (∀ j (hj : j < s.size), j < k + 1 → isDig s[j] = true) := by
            intro j hj h
            rcases Nat.lt_succ_iff_lt_or_eq.1 h with h1 | rfl
            · exact hh.out j hj h1
            · exact hc
          obtain ⟨h1, h2⟩ := dig_bounds hc
          clear hh hc
          go_wp2
          go_round
          case rel => exact ⟨k + 1, by omega, by go_num, H2⟩
          case measure => simp [intOf]; omega
      · have e1 : digs s.data.toList = true := digs_all h0 fun j hj => hh.out j hj (by omega)
        clear hh
        go_wp2
        go_ret
        first | exact ⟨rfl, rfl⟩ | (rw [e1]; exact ⟨rfl, rfl⟩)
  · have e1 := digs_empty h0
    go_enter Try.func23, Try.ntmps23
    go_wp2
    go_ret
    first | exact ⟨rfl, rfl⟩ | (rw [e1]; exact ⟨rfl, rfl⟩)

theorem zzAllDigits (s : ByteArray) (hs : s.size ≤ 2097152) (w : World) :
    Calls Try.prog 17 #[.string s] w fun e w' => e = .returned (.bool (digs s.data.toList)) ∧ w' = w := by
  go_enter Try.func17, Try.ntmps17
  go_wp2_with (go_at_call 23; refine (allDigits_any _ hs _).mono ?_; rintro e w' ⟨rfl, rfl⟩)
  go_ret
  exact ⟨rfl, rfl⟩

/-- strings.Cut at the point, and what the two parts have to do with the automaton. -/
theorem cut_dot (T : ByteArray) (hs : T.size ≤ 2097152) : ∃ (X Y : ByteArray) (f : Bool),
    (∀ w, Calls Try.prog 22 #[.string T, .string ⟨#[46]⟩] w fun e w' => e = .returned (.tuple #[.string X, .string Y, .bool f]) ∧ Qt w w') ∧
    X.size ≤ 2097152 ∧ Y.size ≤ 2097152 ∧ (digs X.data.toList && (!f || digs Y.data.toList)) = run 1 T.data.toList := by
  rcases indexByte_spec T.data.toList 46 with ⟨h, hn⟩ | ⟨p, h, hp, hat, hbe⟩
  · refine ⟨T, ByteArray.empty, false, fun w => (cut_miss T ⟨#[46]⟩ rfl h w).mono fun e w' hh => ⟨hh.1, hh.2 ▸ Qt.refl _⟩, hs, by simp, ?_⟩
    rw [run1_none hn]; simp
  · have hp' : p < T.size := by rw [Lib.size_eq]; exact hp
    refine ⟨T.extract 0 p, T.extract (p + 1) T.size, true, fun w => (cut_hit T ⟨#[46]⟩ rfl p h hp' hs w).mono fun e w' hh => ⟨hh.1, hh.2 ▸ (Qt.refl _).drew⟩, by simp; omega, by simp; omega, ?_⟩
    have e : T.data.toList = (T.extract 0 p).data.toList ++ 46 :: (T.extract (p + 1) T.size).data.toList := by
      rw [Lib.extract_data, Lib.extract_data, Lib.size_eq]
      have e1 : (T.data.toList.drop (p + 1)).take (T.data.toList.length - (p + 1)) = T.data.toList.drop (p + 1) := List.take_of_length_le (by simp)
      rw [e1, List.drop_zero, Nat.sub_zero]
      have e2 : T.data.toList[p] = 46 := by rw [List.getElem?_eq_getElem hp] at hat; exact Option.some.inj hat
      rw [← e2, List.getElem_cons_drop, List.take_append_drop]
    rw [e, run1_join]; simp

end Go.Proofs.Qxb6000513a
