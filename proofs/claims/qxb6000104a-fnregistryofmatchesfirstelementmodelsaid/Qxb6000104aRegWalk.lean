/-
  THE WALKS of registryOf and of its model zzModelRegistry.
-/
import Derived.Test.Qxb6000104aAny
import Derived.Test.Qxb6000104aReg
import Derived.Test.Qxb6000104aSplit
import Derived.Test.Qxb6000104aModel
import Derived.Test.Qxb6000104aHas
namespace Go.Proofs.Qxb6000104a
open Go.RowKit

theorem Qt.below {w w' : World} (h : Qt w w') : Below w.heap.size w w' := by
  obtain ⟨n, rfl⟩ := h; exact ⟨rfl, rfl, rfl, Nat.le_refl _, fun _ _ => rfl⟩

theorem Qt.size {w w' : World} (h : Qt w w') : w'.heap.size = w.heap.size := by
  obtain ⟨n, rfl⟩ := h; rfl

theorem bt {a b c : World} (h : Below a.heap.size a b) (k : Below b.heap.size b c) : Below a.heap.size a c := h.trans (k.mono h.size)

theorem split_size (s : ByteArray) : (splitP s).1.size ≤ s.size := by
  have tag : ∀ B : ByteArray, (tagP B).1.size ≤ B.size := by
    intro B
    unfold tagP
    split
    · simp; omega
    · exact Nat.le_refl _
  unfold splitP
  split
  · exact tag s
  · refine Nat.le_trans (tag _) ?_
    simp; omega

/-- strings.Cut at the slash. -/
theorem cut_slash_miss (s : ByteArray) (hm : Lib.indexByte s.data.toList 47 = -1) (w : World) :
    Calls Try.prog 28 #[.string s, .string ⟨#[47]⟩] w fun e w' => e = .returned (.tuple #[.string s, .string ByteArray.empty, .bool false]) ∧ w' = w :=
  cut_miss s ⟨#[47]⟩ rfl hm w

theorem cut_slash_hit (s : ByteArray) (p : Nat) (hm : Lib.indexByte s.data.toList 47 = p) (hp : p < s.size) (hs : s.size ≤ 2097152) (w : World) :
    Calls Try.prog 28 #[.string s, .string ⟨#[47]⟩] w fun e w' => e = .returned (.tuple #[.string (s.extract 0 p), .string (s.extract (p + 1) s.size), .bool true]) ∧ w' = w.drew :=
  cut_hit s ⟨#[47]⟩ rfl p hm hp hs w

set_option maxHeartbeats 400000 in
theorem reg_miss (s R V : ByteArray) (hs : s.size ≤ 2097152) (hR : Hid (splitP s = (R, V))) (hm : Hid (Lib.indexByte R.data.toList 47 = -1)) (w : World) :
    Calls Try.prog 26 #[.string s] w fun e w' => e = .returned (.string hub) ∧ Below w.heap.size w w' := by
  have HS : Hid (∀ w, Calls Try.prog 25 #[.string s] w fun e w' => e = .returned (.tuple #[.string R, .string V]) ∧ Qt w w') := by
    intro w
    have := split_any s hs w
    rw [hR.out] at this
    exact this
  go_enter Try.func26, Try.ntmps26
  go_wp2_with (first
    | (go_at_call 25; refine (HS.out _).mono ?_; rintro e w1 ⟨rfl, hq⟩)
    | (go_at_call 28; refine (cut_slash_miss _ hm.out _).mono ?_; rintro e w2 ⟨rfl, rfl⟩))
  go_ret
  exact ⟨rfl, hq.below⟩

theorem contains_at (H : ByteArray) (b : Bool) (h : (hasB H 46 || hasB H 58) = b) (hs : H.size ≤ 2097152) (w : World) :
    Calls Try.prog 30 #[.string H, .string ⟨#[46, 58]⟩] w fun e w' => e = .returned (.bool b) ∧ Below w.heap.size w w' := by
  have := containsAny_any H hs w
  rw [any_has, h] at this
  exact this

set_option maxHeartbeats 400000 in
theorem reg_hit_docker (s R V H Y : ByteArray) (HS : Hid (∀ w, Calls Try.prog 25 #[.string s] w fun e w' => e = .returned (.tuple #[.string R, .string V]) ∧ Qt w w'))
    (HC : Hid (∀ w, Calls Try.prog 28 #[.string R, .string ⟨#[47]⟩] w fun e w' => e = .returned (.tuple #[.string H, .string Y, .bool true]) ∧ w' = w.drew))
    (hd : (H.toList == [100, 111, 99, 107, 101, 114, 46, 105, 111]) = true) (w : World) :
    Calls Try.prog 26 #[.string s] w fun e w' => e = .returned (.string hub) ∧ Below w.heap.size w w' := by
  go_enter Try.func26, Try.ntmps26
  go_wp2_with (first
    | (go_at_call 25; refine (HS.out _).mono ?_; rintro e w1 ⟨rfl, hq⟩)
    | (go_at_call 28; refine (HC.out _).mono ?_; rintro e w2 ⟨rfl, rfl⟩))
  go_ret
  exact ⟨rfl, (hq.drew).below⟩

set_option maxHeartbeats 400000 in
theorem reg_hit_any (s R V H Y : ByteArray) (HS : Hid (∀ w, Calls Try.prog 25 #[.string s] w fun e w' => e = .returned (.tuple #[.string R, .string V]) ∧ Qt w w'))
    (HC : Hid (∀ w, Calls Try.prog 28 #[.string R, .string ⟨#[47]⟩] w fun e w' => e = .returned (.tuple #[.string H, .string Y, .bool true]) ∧ w' = w.drew)) (hH : H.size ≤ 2097152)
    (hd : (H.toList == [100, 111, 99, 107, 101, 114, 46, 105, 111]) = false) (hany : Hid ((hasB H 46 || hasB H 58) = true)) (w : World) :
    Calls Try.prog 26 #[.string s] w fun e w' => e = .returned (.string H) ∧ Below w.heap.size w w' := by
  go_enter Try.func26, Try.ntmps26
  go_wp2_with (first
    | (go_at_call 25; refine (HS.out _).mono ?_; rintro e w1 ⟨rfl, hq⟩)
    | (go_at_call 28; refine (HC.out _).mono ?_; rintro e w2 ⟨rfl, rfl⟩)
    | (go_at_call 30; refine (contains_at _ _ hany.out hH _).mono ?_; rintro e w3 ⟨rfl, hb⟩))
  go_ret
  exact ⟨rfl, bt (hq.drew).below hb⟩

set_option maxHeartbeats 400000 in
theorem reg_hit_local (s R V H Y : ByteArray) (HS : Hid (∀ w, Calls Try.prog 25 #[.string s] w fun e w' => e = .returned (.tuple #[.string R, .string V]) ∧ Qt w w'))
    (HC : Hid (∀ w, Calls Try.prog 28 #[.string R, .string ⟨#[47]⟩] w fun e w' => e = .returned (.tuple #[.string H, .string Y, .bool true]) ∧ w' = w.drew)) (hH : H.size ≤ 2097152)
    (hd : (H.toList == [100, 111, 99, 107, 101, 114, 46, 105, 111]) = false) (hany : Hid ((hasB H 46 || hasB H 58) = false)) (hl : (H.toList == [108, 111, 99, 97, 108, 104, 111, 115, 116]) = true) (w : World) :
    Calls Try.prog 26 #[.string s] w fun e w' => e = .returned (.string H) ∧ Below w.heap.size w w' := by
  go_enter Try.func26, Try.ntmps26
  go_wp2_with (first
    | (go_at_call 25; refine (HS.out _).mono ?_; rintro e w1 ⟨rfl, hq⟩)
    | (go_at_call 28; refine (HC.out _).mono ?_; rintro e w2 ⟨rfl, rfl⟩)
    | (go_at_call 30; refine (contains_at _ _ hany.out hH _).mono ?_; rintro e w3 ⟨rfl, hb⟩))
  go_ret
  exact ⟨rfl, bt (hq.drew).below hb⟩

set_option maxHeartbeats 400000 in
theorem reg_hit_none (s R V H Y : ByteArray) (HS : Hid (∀ w, Calls Try.prog 25 #[.string s] w fun e w' => e = .returned (.tuple #[.string R, .string V]) ∧ Qt w w'))
    (HC : Hid (∀ w, Calls Try.prog 28 #[.string R, .string ⟨#[47]⟩] w fun e w' => e = .returned (.tuple #[.string H, .string Y, .bool true]) ∧ w' = w.drew)) (hH : H.size ≤ 2097152)
    (hd : (H.toList == [100, 111, 99, 107, 101, 114, 46, 105, 111]) = false) (hany : Hid ((hasB H 46 || hasB H 58) = false)) (hl : (H.toList == [108, 111, 99, 97, 108, 104, 111, 115, 116]) = false) (w : World) :
    Calls Try.prog 26 #[.string s] w fun e w' => e = .returned (.string hub) ∧ Below w.heap.size w w' := by
  go_enter Try.func26, Try.ntmps26
  go_wp2_with (first
    | (go_at_call 25; refine (HS.out _).mono ?_; rintro e w1 ⟨rfl, hq⟩)
    | (go_at_call 28; refine (HC.out _).mono ?_; rintro e w2 ⟨rfl, rfl⟩)
    | (go_at_call 30; refine (contains_at _ _ hany.out hH _).mono ?_; rintro e w3 ⟨rfl, hb⟩))
  go_ret
  exact ⟨rfl, bt (hq.drew).below hb⟩

theorem docker_list : dockerIo.toList = [100, 111, 99, 107, 101, 114, 46, 105, 111] := by rw [Lib.toList_data]; rfl
theorem local_list : localhost.toList = [108, 111, 99, 97, 108, 104, 111, 115, 116] := by rw [Lib.toList_data]; rfl

/-- registryOf answers 'regP' of the repository. -/
theorem reg_any (s : ByteArray) (hs : s.size ≤ 2097152) (w : World) :
    Calls Try.prog 26 #[.string s] w fun e w' => e = .returned (.string (regP (splitP s).1)) ∧ Below w.heap.size w w' := by
  obtain ⟨R, V, hR⟩ : ∃ R V, splitP s = (R, V) := ⟨_, _, rfl⟩
  have hRs : R.size ≤ s.size := by have := split_size s; rw [hR] at this; exact this
  have HS : Hid (∀ w, Calls Try.prog 25 #[.string s] w fun e w' => e = .returned (.tuple #[.string R, .string V]) ∧ Qt w w') := by
    intro w
    have := split_any s hs w
    rw [hR] at this
    exact this
  rw [hR]
  show Calls Try.prog 26 #[.string s] w fun e w' => e = .returned (.string (regP R)) ∧ Below w.heap.size w w'
  rcases indexByte_spec R.data.toList 47 with ⟨h, _⟩ | ⟨p, h, hp, _, _⟩
  · rw [regP_miss h]; exact reg_miss s R V hs hR h w
  · rw [regP_hit h]
    have hp' : p < R.size := by rw [Lib.size_eq]; exact hp
    have HC : Hid (∀ w, Calls Try.prog 28 #[.string R, .string ⟨#[47]⟩] w fun e w' => e = .returned (.tuple #[.string (R.extract 0 p), .string (R.extract (p + 1) R.size), .bool true]) ∧ w' = w.drew) :=
      fun w => cut_slash_hit R p h hp' (by omega) w
    have hH : (R.extract 0 p).size ≤ 2097152 := by simp; omega
    unfold hostP
    rw [docker_list, local_list]
    split
    · rename_i c; exact reg_hit_docker s R V _ _ HS HC c w
    · rename_i c
      have c' : ((R.extract 0 p).toList == [100, 111, 99, 107, 101, 114, 46, 105, 111]) = false := by simpa using c
      cases hany : (hasB (R.extract 0 p) 46 || hasB (R.extract 0 p) 58)
      · split
        · rename_i c2; exact reg_hit_local s R V _ _ HS HC hH c' hany c2 w
        · rename_i c2
          simp only [Bool.false_eq_true, if_false]
          exact reg_hit_none s R V _ _ HS HC hH c' hany (by simpa using c2) w
      · simp only [if_true, ite_self]
        exact reg_hit_any s R V _ _ HS HC hH c' hany w

theorem zzReg (s : ByteArray) (hs : s.size ≤ 2097152) (w : World) :
    Calls Try.prog 15 #[.string s] w fun e w' => e = .returned (.string (regP (splitP s).1)) ∧ Below w.heap.size w w' := by
  go_enter Try.func15, Try.ntmps15
  go_wp2_with (go_at_call 26; refine (reg_any _ hs _).mono ?_; rintro e w' ⟨rfl, hb⟩)
  go_ret
  exact ⟨rfl, hb⟩

end Go.Proofs.Qxb6000104a
