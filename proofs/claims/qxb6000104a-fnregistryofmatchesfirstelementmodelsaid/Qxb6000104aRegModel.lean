/-
  THE WALK of zzModelRegistry, and FnRegistryOfMatchesFirstElementModel.
-/
import Derived.Test.Qxb6000104aRegWalk
namespace Go.Proofs.Qxb6000104a
open Go.RowKit
set_option linter.unusedVariables false

set_option maxHeartbeats 400000 in
theorem rm_none (s : ByteArray) (hs : s.size ≤ 2097152) (HN : Hid (∀ k (hk : k < s.size), ((s[k].toNat : Int) == 64) = false ∧ ((s[k].toNat : Int) == 47) = false)) (w : World) :
    Calls Try.prog 16 #[.string s] w fun e w' => e = .returned (.string hub) ∧ w' = w := by
  go_enter Try.func16, Try.ntmps16
  go_wp2
  go_loop [3, 4] (fun i _ => ∃ k : Nat, k ≤ s.size ∧ i = .int .i64 k) (fun i _ => s.size - (intOf i).toNat)
  case atStart => exact ⟨0, Nat.zero_le _, rfl⟩
  case round =>
    obtain ⟨k, hk, rfl⟩ := hrel
    by_cases hlt : k < s.size
    · obtain ⟨hne, hne2⟩ := HN.out k hlt
      have hks : k < s.size := by omega
      go_wp2
      go_round
      case rel => exact ⟨k + 1, by omega, by go_num⟩
      case measure => simp [intOf]; omega
    · go_wp2
      go_ret
      exact ⟨rfl, rfl⟩

set_option maxHeartbeats 400000 in
theorem rm_at (s : ByteArray) (hs : s.size ≤ 2097152) (p : Nat) (hp : p < s.size) (HN : Hid (∀ k (hk : k < p), ((s[k].toNat : Int) == 64) = false ∧ ((s[k].toNat : Int) == 47) = false)) (he : ((s[p].toNat : Int) == 64) = true) (w : World) :
    Calls Try.prog 16 #[.string s] w fun e w' => e = .returned (.string hub) ∧ w' = w := by
  go_enter Try.func16, Try.ntmps16
  go_wp2
  go_loop [3, 4] (fun i _ => ∃ k : Nat, k ≤ p ∧ i = .int .i64 k) (fun i _ => s.size - (intOf i).toNat)
  case atStart => exact ⟨0, Nat.zero_le _, rfl⟩
  case round =>
    obtain ⟨k, hk, rfl⟩ := hrel
    by_cases hlt : k < p
    · obtain ⟨hne, hne2⟩ := HN.out k hlt
      have hks : k < s.size := by omega
      go_wp2
      go_round
      case rel => exact ⟨k + 1, by omega, by go_num⟩
      case measure => simp [intOf]; omega
    · obtain rfl : k = p := by omega
      go_wp2
      go_ret
      exact ⟨rfl, rfl⟩

set_option maxHeartbeats 400000 in
theorem rm_docker (s : ByteArray) (hs : s.size ≤ 2097152) (H : ByteArray) (p : Nat) (hp : p < s.size) (HN : Hid (∀ k (hk : k < p), ((s[k].toNat : Int) == 64) = false ∧ ((s[k].toNat : Int) == 47) = false)) (he0 : ((s[p].toNat : Int) == 64) = false) (he : ((s[p].toNat : Int) == 47) = true) (hH : Hid (s.extract 0 p = H)) (hHs : H.size ≤ 2097152) (hd : (H.toList == [100, 111, 99, 107, 101, 114, 46, 105, 111]) = true) (w : World) :
    Calls Try.prog 16 #[.string s] w fun e w' => e = .returned (.string hub) ∧ w' = w := by
  go_enter Try.func16, Try.ntmps16
  go_wp2
  go_loop [3, 4] (fun i _ => ∃ k : Nat, k ≤ p ∧ i = .int .i64 k) (fun i _ => s.size - (intOf i).toNat)
  case atStart => exact ⟨0, Nat.zero_le _, rfl⟩
  case round =>
    obtain ⟨k, hk, rfl⟩ := hrel
    by_cases hlt : k < p
    · obtain ⟨hne, hne2⟩ := HN.out k hlt
      have hks : k < s.size := by omega
      go_wp2
      go_round
      case rel => exact ⟨k + 1, by omega, by go_num⟩
      case measure => simp [intOf]; omega
    · obtain rfl : k = p := by omega
      have hH' := hH.out
      have c1 : (0 : Int) ≤ ↑k := by omega
      have c2 : (↑k : Int) ≤ ↑s.size := by omega
      go_wp2_with (go_at_call 13; refine (hasByte_any _ _ hHs _).mono ?_; rintro e w1 ⟨rfl, rfl⟩)
      go_ret
      exact ⟨rfl, rfl⟩

set_option maxHeartbeats 400000 in
theorem rm_local (s : ByteArray) (hs : s.size ≤ 2097152) (H : ByteArray) (p : Nat) (hp : p < s.size) (HN : Hid (∀ k (hk : k < p), ((s[k].toNat : Int) == 64) = false ∧ ((s[k].toNat : Int) == 47) = false)) (he0 : ((s[p].toNat : Int) == 64) = false) (he : ((s[p].toNat : Int) == 47) = true) (hH : Hid (s.extract 0 p = H)) (hHs : H.size ≤ 2097152) (hd : (H.toList == [100, 111, 99, 107, 101, 114, 46, 105, 111]) = false) (hl : (H.toList == [108, 111, 99, 97, 108, 104, 111, 115, 116]) = true) (w : World) :
    Calls Try.prog 16 #[.string s] w fun e w' => e = .returned (.string H) ∧ w' = w := by
  go_enter Try.func16, Try.ntmps16
  go_wp2
  go_loop [3, 4] (fun i _ => ∃ k : Nat, k ≤ p ∧ i = .int .i64 k) (fun i _ => s.size - (intOf i).toNat)
  case atStart => exact ⟨0, Nat.zero_le _, rfl⟩
  case round =>
    obtain ⟨k, hk, rfl⟩ := hrel
    by_cases hlt : k < p
    · obtain ⟨hne, hne2⟩ := HN.out k hlt
      have hks : k < s.size := by omega
      go_wp2
      go_round
      case rel => exact ⟨k + 1, by omega, by go_num⟩
      case measure => simp [intOf]; omega
    · obtain rfl : k = p := by omega
      have hH' := hH.out
      have c1 : (0 : Int) ≤ ↑k := by omega
      have c2 : (↑k : Int) ≤ ↑s.size := by omega
      go_wp2_with (go_at_call 13; refine (hasByte_any _ _ hHs _).mono ?_; rintro e w1 ⟨rfl, rfl⟩)
      go_ret
      exact ⟨rfl, rfl⟩

set_option maxHeartbeats 400000 in
theorem rm_dot (s : ByteArray) (hs : s.size ≤ 2097152) (H : ByteArray) (p : Nat) (hp : p < s.size) (HN : Hid (∀ k (hk : k < p), ((s[k].toNat : Int) == 64) = false ∧ ((s[k].toNat : Int) == 47) = false)) (he0 : ((s[p].toNat : Int) == 64) = false) (he : ((s[p].toNat : Int) == 47) = true) (hH : Hid (s.extract 0 p = H)) (hHs : H.size ≤ 2097152) (hd : (H.toList == [100, 111, 99, 107, 101, 114, 46, 105, 111]) = false) (hl : (H.toList == [108, 111, 99, 97, 108, 104, 111, 115, 116]) = false) (h1 : hasB H 46 = true) (w : World) :
    Calls Try.prog 16 #[.string s] w fun e w' => e = .returned (.string H) ∧ w' = w := by
  go_enter Try.func16, Try.ntmps16
  go_wp2
  go_loop [3, 4] (fun i _ => ∃ k : Nat, k ≤ p ∧ i = .int .i64 k) (fun i _ => s.size - (intOf i).toNat)
  case atStart => exact ⟨0, Nat.zero_le _, rfl⟩
  case round =>
    obtain ⟨k, hk, rfl⟩ := hrel
    by_cases hlt : k < p
    · obtain ⟨hne, hne2⟩ := HN.out k hlt
      have hks : k < s.size := by omega
      go_wp2
      go_round
      case rel => exact ⟨k + 1, by omega, by go_num⟩
      case measure => simp [intOf]; omega
    · obtain rfl : k = p := by omega
      have hH' := hH.out
      have c1 : (0 : Int) ≤ ↑k := by omega
      have c2 : (↑k : Int) ≤ ↑s.size := by omega
      go_wp2_with (go_at_call 13; refine (hasByte_any _ _ hHs _).mono ?_; rintro e w1 ⟨rfl, rfl⟩)
      go_ret
      exact ⟨rfl, rfl⟩

set_option maxHeartbeats 400000 in
theorem rm_colon (s : ByteArray) (hs : s.size ≤ 2097152) (H : ByteArray) (p : Nat) (hp : p < s.size) (HN : Hid (∀ k (hk : k < p), ((s[k].toNat : Int) == 64) = false ∧ ((s[k].toNat : Int) == 47) = false)) (he0 : ((s[p].toNat : Int) == 64) = false) (he : ((s[p].toNat : Int) == 47) = true) (hH : Hid (s.extract 0 p = H)) (hHs : H.size ≤ 2097152) (hd : (H.toList == [100, 111, 99, 107, 101, 114, 46, 105, 111]) = false) (hl : (H.toList == [108, 111, 99, 97, 108, 104, 111, 115, 116]) = false) (h1 : hasB H 46 = false) (h2 : hasB H 58 = true) (w : World) :
    Calls Try.prog 16 #[.string s] w fun e w' => e = .returned (.string H) ∧ w' = w := by
  go_enter Try.func16, Try.ntmps16
  go_wp2
  go_loop [3, 4] (fun i _ => ∃ k : Nat, k ≤ p ∧ i = .int .i64 k) (fun i _ => s.size - (intOf i).toNat)
  case atStart => exact ⟨0, Nat.zero_le _, rfl⟩
  case round =>
    obtain ⟨k, hk, rfl⟩ := hrel
    by_cases hlt : k < p
    · obtain ⟨hne, hne2⟩ := HN.out k hlt
      have hks : k < s.size := by omega
      go_wp2
      go_round
      case rel => exact ⟨k + 1, by omega, by go_num⟩
      case measure => simp [intOf]; omega
    · obtain rfl : k = p := by omega
      have hH' := hH.out
      have c1 : (0 : Int) ≤ ↑k := by omega
      have c2 : (↑k : Int) ≤ ↑s.size := by omega
      go_wp2_with (go_at_call 13; refine (hasByte_any _ _ hHs _).mono ?_; rintro e w1 ⟨rfl, rfl⟩)
      go_ret
      exact ⟨rfl, rfl⟩

set_option maxHeartbeats 400000 in
theorem rm_plain (s : ByteArray) (hs : s.size ≤ 2097152) (H : ByteArray) (p : Nat) (hp : p < s.size) (HN : Hid (∀ k (hk : k < p), ((s[k].toNat : Int) == 64) = false ∧ ((s[k].toNat : Int) == 47) = false)) (he0 : ((s[p].toNat : Int) == 64) = false) (he : ((s[p].toNat : Int) == 47) = true) (hH : Hid (s.extract 0 p = H)) (hHs : H.size ≤ 2097152) (hd : (H.toList == [100, 111, 99, 107, 101, 114, 46, 105, 111]) = false) (hl : (H.toList == [108, 111, 99, 97, 108, 104, 111, 115, 116]) = false) (h1 : hasB H 46 = false) (h2 : hasB H 58 = false) (w : World) :
    Calls Try.prog 16 #[.string s] w fun e w' => e = .returned (.string hub) ∧ w' = w := by
  go_enter Try.func16, Try.ntmps16
  go_wp2
  go_loop [3, 4] (fun i _ => ∃ k : Nat, k ≤ p ∧ i = .int .i64 k) (fun i _ => s.size - (intOf i).toNat)
  case atStart => exact ⟨0, Nat.zero_le _, rfl⟩
  case round =>
    obtain ⟨k, hk, rfl⟩ := hrel
    by_cases hlt : k < p
    · obtain ⟨hne, hne2⟩ := HN.out k hlt
      have hks : k < s.size := by omega
      go_wp2
      go_round
      case rel => exact ⟨k + 1, by omega, by go_num⟩
      case measure => simp [intOf]; omega
    · obtain rfl : k = p := by omega
      have hH' := hH.out
      have c1 : (0 : Int) ≤ ↑k := by omega
      have c2 : (↑k : Int) ≤ ↑s.size := by omega
      go_wp2_with (go_at_call 13; refine (hasByte_any _ _ hHs _).mono ?_; rintro e w1 ⟨rfl, rfl⟩)
      go_ret
      exact ⟨rfl, rfl⟩

theorem rm_slash (s : ByteArray) (hs : s.size ≤ 2097152) (p : Nat) (hp : p < s.size) (HN : Hid (∀ k (hk : k < p), ((s[k].toNat : Int) == 64) = false ∧ ((s[k].toNat : Int) == 47) = false)) (he0 : ((s[p].toNat : Int) == 64) = false) (he : ((s[p].toNat : Int) == 47) = true) (w : World) :
    Calls Try.prog 16 #[.string s] w fun e w' => e = .returned (.string (hostP (s.extract 0 p))) ∧ w' = w := by
  have hHs : (s.extract 0 p).size ≤ 2097152 := by simp; omega
  unfold hostP
  rw [docker_list, local_list]
  split
  · rename_i c; exact rm_docker s hs _ p hp HN he0 he rfl hHs c w
  · rename_i c
    have c' : ((s.extract 0 p).toList == [100, 111, 99, 107, 101, 114, 46, 105, 111]) = false := by simpa using c
    split
    · rename_i c2; exact rm_local s hs _ p hp HN he0 he rfl hHs c' c2 w
    · rename_i c2
      have c2' : ((s.extract 0 p).toList == [108, 111, 99, 97, 108, 104, 111, 115, 116]) = false := by simpa using c2
      cases h1 : hasB (s.extract 0 p) 46
      · cases h2 : hasB (s.extract 0 p) 58
        · simp only [Bool.or_self, Bool.false_eq_true, if_false]
          exact rm_plain s hs _ p hp HN he0 he rfl hHs c' c2' h1 h2 w
        · simp only [Bool.false_or, if_true]
          exact rm_colon s hs _ p hp HN he0 he rfl hHs c' c2' h1 h2 w
      · simp only [Bool.true_or, if_true]
        exact rm_dot s hs _ p hp HN he0 he rfl hHs c' c2' h1 w

/-- The model answers what registryOf answers. -/
theorem rm_any (s : ByteArray) (hs : s.size ≤ 2097152) (w : World) :
    Calls Try.prog 16 #[.string s] w fun e w' => e = .returned (.string (regP (splitP s).1)) ∧ w' = w := by
  rcases indexByte_spec s.data.toList 64 with ⟨h, hn⟩ | ⟨q, h, hq, hat, hbe⟩
  · rcases indexByte_spec s.data.toList 47 with ⟨h2, hn2⟩ | ⟨p, h2, hp, hat2, hbe2⟩
    · rw [reg_hub_miss h h2]
      exact rm_none s hs (fun k hk => ⟨at_ne s 64 k hk (fun e => hn (List.mem_of_getElem? e)), at_ne s 47 k hk (fun e => hn2 (List.mem_of_getElem? e))⟩) w
    · rw [reg_host_miss h h2]
      rw [← Lib.size_eq] at hp
      exact rm_slash s hs p hp (fun k hk => ⟨at_ne s 64 k (by omega) (fun e => hn (List.mem_of_getElem? e)), at_ne s 47 k (by omega) (hbe2 k hk)⟩) (at_ne s 64 p hp (fun e => hn (List.mem_of_getElem? e))) (at_eq s 47 p hp hat2) w
  · rw [← Lib.size_eq] at hq
    rcases indexByte_spec s.data.toList 47 with ⟨h2, hn2⟩ | ⟨p, h2, hp, hat2, hbe2⟩
    · rw [reg_hub_hit h (fun i _ e => hn2 (List.mem_of_getElem? e))]
      exact rm_at s hs q hq (fun k hk => ⟨at_ne s 64 k (by omega) (hbe k hk), at_ne s 47 k (by omega) (fun e => hn2 (List.mem_of_getElem? e))⟩) (at_eq s 64 q hq hat) w
    · rw [← Lib.size_eq] at hp
      rcases Nat.lt_or_ge p q with hpq | hpq
      · rw [reg_host_hit h h2 hpq]
        exact rm_slash s hs p hp (fun k hk => ⟨at_ne s 64 k (by omega) (hbe k (by omega)), at_ne s 47 k (by omega) (hbe2 k hk)⟩) (at_ne s 64 p hp (hbe p hpq)) (at_eq s 47 p hp hat2) w
      · rw [reg_hub_hit h (fun i hi => hbe2 i (by omega))]
        exact rm_at s hs q hq (fun k hk => ⟨at_ne s 64 k (by omega) (hbe k hk), at_ne s 47 k (by omega) (hbe2 k (by omega))⟩) (at_eq s 64 q hq hat) w

set_option maxHeartbeats 400000 in
/-- FnRegistryOfMatchesFirstElementModel returns true. -/
theorem fnReg_any (s : ByteArray) (hm : s.size ≤ maxLen) (w : World) :
    Calls Try.prog 5 #[.string s] w fun e w' => e = .returned (.bool true) ∧ Below w.heap.size w w' := by
  unfold maxLen at hm
  by_cases hbig : s.size ≤ 1048576
  · have hb2 : s.size ≤ 2097152 := by omega
    go_enter Try.func5, Try.ntmps5
    go_wp2_with (first
      | (go_at_call 15; refine (zzReg _ hb2 _).mono ?_; rintro e w1 ⟨rfl, hb⟩)
      | (go_at_call 16; refine (rm_any _ hb2 _).mono ?_; rintro e w2 ⟨rfl, rfl⟩)
      | go_in)
    go_ret
    exact ⟨rfl, hb⟩
  · go_enter Try.func5, Try.ntmps5
    go_wp2
    go_ret
    exact ⟨rfl, Below.refl _ _⟩

end Go.Proofs.Qxb6000104a
