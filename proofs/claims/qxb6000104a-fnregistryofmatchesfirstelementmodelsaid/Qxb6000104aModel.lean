/-
  THE WALK of the model zzModelSplit: it answers 'splitP'.
-/
import Derived.Test.Qxb6000104aSplit
namespace Go.Proofs.Qxb6000104a
open Go.RowKit

theorem model_none {B : ByteArray} {k : Nat} (k0 : k = 0) (h1 : Lib.lastIndexByte B 58 = Lib.lastIdx B 58 k) (h2 : Lib.lastIndexByte B 47 = Lib.lastIdx B 47 k) :
    tagP B = (B, ByteArray.empty) := by
  subst k0
  exact tagP_no (by rw [h1, h2]; simp [Lib.lastIdx])

theorem model_slash {B : ByteArray} {k : Nat} (k0 : ¬ k = 0) (hk : k ≤ B.size) (h : ((B[k - 1].toNat : Int) == 47) = true)
    (h1 : Lib.lastIndexByte B 58 = Lib.lastIdx B 58 k) (h2 : Lib.lastIndexByte B 47 = Lib.lastIdx B 47 k) : tagP B = (B, ByteArray.empty) := by
  obtain ⟨m, rfl⟩ : ∃ m, k = m + 1 := ⟨k - 1, by omega⟩
  have e : ((B.data[m]!).toNat : Int) = 47 := by rw [byteBang B m (by omega)]; simpa using h
  have e2 := Lib.lastIdx_hit B 47 m e
  have e1 := Lib.lastIdx_miss B 58 m (by omega)
  have := lastIdx_bd B 58 m
  exact tagP_no (by omega)

theorem model_colon {B : ByteArray} {k : Nat} (k0 : ¬ k = 0) (hk : k ≤ B.size) (h : ((B[k - 1].toNat : Int) == 58) = true)
    (h1 : Lib.lastIndexByte B 58 = Lib.lastIdx B 58 k) (h2 : Lib.lastIndexByte B 47 = Lib.lastIdx B 47 k) :
    tagP B = (B.extract 0 (k - 1), B.extract k B.size) := by
  obtain ⟨m, rfl⟩ : ∃ m, k = m + 1 := ⟨k - 1, by omega⟩
  have e : ((B.data[m]!).toNat : Int) = 58 := by rw [byteBang B m (by omega)]; simpa using h
  have e1 := Lib.lastIdx_hit B 58 m e
  have e2 := Lib.lastIdx_miss B 47 m (by omega)
  have := lastIdx_bd B 47 m
  exact tagP_yes (a := m) (by omega) (by omega)

theorem model_step {B : ByteArray} {k : Nat} (k0 : ¬ k = 0) (hk : k ≤ B.size) (ha : ((B[k - 1].toNat : Int) == 47) = false) (hb : ((B[k - 1].toNat : Int) == 58) = false)
    (h1 : Lib.lastIndexByte B 58 = Lib.lastIdx B 58 k) (h2 : Lib.lastIndexByte B 47 = Lib.lastIdx B 47 k) :
    Lib.lastIndexByte B 58 = Lib.lastIdx B 58 (k - 1) ∧ Lib.lastIndexByte B 47 = Lib.lastIdx B 47 (k - 1) := by
  obtain ⟨m, rfl⟩ : ∃ m, k = m + 1 := ⟨k - 1, by omega⟩
  have e : ((B.data[m]!).toNat : Int) ≠ 47 := by rw [byteBang B m (by omega)]; simpa using ha
  have f : ((B.data[m]!).toNat : Int) ≠ 58 := by rw [byteBang B m (by omega)]; simpa using hb
  exact ⟨h1.trans (Lib.lastIdx_miss B 58 m f), h2.trans (Lib.lastIdx_miss B 47 m e)⟩

theorem at_ne (s : ByteArray) (c : UInt8) (k : Nat) (hk : k < s.size) (h : s.data.toList[k]? ≠ some c) : ((s[k].toNat : Int) == (c.toNat : Int)) = false := by
  have e : s.data.toList[k]? = some s[k] := by
    rw [List.getElem?_eq_getElem (by rw [← Lib.size_eq]; exact hk)]; simp; rfl
  rw [e] at h
  have : s[k] ≠ c := fun x => h (by rw [x])
  simp
  intro x
  exact this (UInt8.toNat_inj.1 (by omega))

theorem at_eq (s : ByteArray) (c : UInt8) (k : Nat) (hk : k < s.size) (h : s.data.toList[k]? = some c) : ((s[k].toNat : Int) == (c.toNat : Int)) = true := by
  have e : s.data.toList[k]? = some s[k] := by
    rw [List.getElem?_eq_getElem (by rw [← Lib.size_eq]; exact hk)]; simp; rfl
  rw [e] at h
  simp only [Option.some.injEq] at h
  rw [h]; simp

set_option maxHeartbeats 1000000 in
theorem model_miss (s : ByteArray) (hs : s.size ≤ 2097152) (HN : Hid (∀ k (hk : k < s.size), ((s[k].toNat : Int) == 64) = false)) (w : World) :
    Calls Try.prog 11 #[.string s] w fun e w' => e = .returned (.tuple #[.string (tagP s).1, .string (tagP s).2]) ∧ w' = w := by
  go_enter Try.func11, Try.ntmps11
  go_wp2
  go_loop [4, 5, 6, 7] (fun b d h i => ∃ k : Nat, k ≤ s.size ∧ i = .int .i64 k ∧ b = .string s ∧ d = .string ⟨#[]⟩ ∧ h = .bool false) (fun _ _ _ i => s.size - (intOf i).toNat)
  case atStart => exact ⟨0, Nat.zero_le _, rfl, rfl, rfl, rfl⟩
  case round =>
   obtain ⟨k, hk, rfl, rfl, rfl, rfl⟩ := hrel
   by_cases hlt : k < s.size
   · have hne := HN.out k hlt
     go_wp2
     go_round
     case rel => exact ⟨k + 1, by omega, by go_num, rfl, rfl, rfl⟩
     case measure => simp [intOf]; omega
   · have hk' : Hid (k = s.size) := by show k = s.size; omega
     clear hk
     go_wp2
     go_loop [8, 9, 10] (fun r v j => ∃ k : Nat, k ≤ s.size ∧ j = .int .i64 ((k : Int) - 1) ∧ r = .string s ∧ v = .string ⟨#[]⟩ ∧ Hid (Lib.lastIndexByte s 58 = Lib.lastIdx s 58 k ∧ Lib.lastIndexByte s 47 = Lib.lastIdx s 47 k)) (fun _ _ j => ((RowKit.intOf j) + 1).toNat)
     case atStart => exact ⟨s.size, Nat.le_refl _, by first | rfl | go_num | (congr 1; omega), rfl, rfl, ⟨rfl, rfl⟩⟩
     case round =>
       obtain ⟨k, hk, rfl, rfl, rfl, hh⟩ := hrel
       by_cases k0 : k = 0
       · have e1 : tagP s = (s, ByteArray.empty) := model_none k0 hh.out.1 hh.out.2
         subst k0
         clear hh
         go_wp2
         go_ret2
         first | exact ⟨rfl, rfl⟩ | (rw [e1]; exact ⟨rfl, rfl⟩)
       · have hkB : k - 1 < s.size := by omega
         by_cases hs47 : ((s[k - 1].toNat : Int) == 47) = true
         · have e1 : tagP s = (s, ByteArray.empty) := model_slash k0 hk hs47 hh.out.1 hh.out.2
           clear hh
           go_wp2
           go_ret2
           first | exact ⟨rfl, rfl⟩ | (rw [e1]; exact ⟨rfl, rfl⟩)
         · have hs47' : ((s[k - 1].toNat : Int) == 47) = false := by simpa using hs47
           clear hs47
           by_cases hs58 : ((s[k - 1].toNat : Int) == 58) = true
           · have e1 : tagP s = (s.extract 0 (k - 1), s.extract k s.size) := model_colon k0 hk hs58 hh.out.1 hh.out.2
             clear hh
             have c1 : (0 : Int) ≤ ↑k - 1 := by omega
             have c2 : (↑k - 1 : Int) ≤ ↑s.size := by omega
             have c3 : (0 : Int) ≤ ↑k - 1 + 1 := by omega
             have c4 : (↑k - 1 + 1 : Int) ≤ ↑s.size := by omega
             go_wp2
             go_ret2
             first | exact ⟨rfl, rfl⟩ | (rw [e1]; exact ⟨rfl, rfl⟩)
           · have hs58' : ((s[k - 1].toNat : Int) == 58) = false := by simpa using hs58
             clear hs58
             have h2 := model_step k0 hk hs47' hs58' hh.out.1 hh.out.2
             have H2 : Hid (Lib.lastIndexByte s 58 = Lib.lastIdx s 58 (k - 1) ∧ Lib.lastIndexByte s 47 = Lib.lastIdx s 47 (k - 1)) := h2
             clear h2 hh
             go_wp2
             go_round
             case rel => exact ⟨k - 1, by omega, by congr 1; omega, rfl, rfl, H2⟩
             case measure => simp [RowKit.intOf]; omega

set_option maxHeartbeats 1000000 in
theorem model_hit (s B D : ByteArray) (p : Nat) (hs : s.size ≤ 2097152) (hp : p < s.size) (hB : Hid (s.extract 0 p = B)) (hD : Hid (s.extract (p + 1) s.size = D)) (hbs : B.size ≤ 2097152)
    (HN : Hid (∀ k (hk : k < p), ((s[k].toNat : Int) == 64) = false)) (he : ((s[p].toNat : Int) == 64) = true) (w : World) :
    Calls Try.prog 11 #[.string s] w fun e w' => e = .returned (.tuple #[.string (tagP B).1, .string D]) ∧ w' = w := by
  go_enter Try.func11, Try.ntmps11
  go_wp2
  go_loop [4, 5, 6, 7] (fun b d h i => ∃ k : Nat, k ≤ p ∧ i = .int .i64 k ∧ b = .string s ∧ d = .string ⟨#[]⟩ ∧ h = .bool false) (fun _ _ _ i => s.size - (intOf i).toNat)
  case atStart => exact ⟨0, Nat.zero_le _, rfl, rfl, rfl, rfl⟩
  case round =>
   obtain ⟨k, hk, rfl, rfl, rfl, rfl⟩ := hrel
   by_cases hlt : k < p
   · have hne := HN.out k hlt
     have hks : k < s.size := by omega
     clear he
     go_wp2
     go_round
     case rel => exact ⟨k + 1, by omega, by go_num, rfl, rfl, rfl⟩
     case measure => simp [intOf]; omega
   · obtain rfl : k = p := by omega
     clear hk hlt
     have c1 : (0 : Int) ≤ ↑k := by omega
     have c2 : (↑k : Int) ≤ ↑s.size := by omega
     have c3 : (0 : Int) ≤ ↑k + 1 := by omega
     have c4 : (↑k + 1 : Int) ≤ ↑s.size := by omega
     have hB' := hB.out
     have hD' := hD.out
     go_wp2
     go_loop [8, 9, 10] (fun r v j => ∃ k : Nat, k ≤ B.size ∧ j = .int .i64 ((k : Int) - 1) ∧ r = .string B ∧ v = .string ⟨#[]⟩ ∧ Hid (Lib.lastIndexByte B 58 = Lib.lastIdx B 58 k ∧ Lib.lastIndexByte B 47 = Lib.lastIdx B 47 k)) (fun _ _ j => ((RowKit.intOf j) + 1).toNat)
     case atStart => exact ⟨B.size, Nat.le_refl _, by first | rfl | go_num | (congr 1; omega), rfl, rfl, ⟨rfl, rfl⟩⟩
     case round =>
       obtain ⟨k, hk, rfl, rfl, rfl, hh⟩ := hrel
       by_cases k0 : k = 0
       · have e1 : tagP B = (B, ByteArray.empty) := model_none k0 hh.out.1 hh.out.2
         subst k0
         clear hh
         go_wp2
         go_ret2
         first | exact ⟨rfl, rfl⟩ | (rw [e1]; exact ⟨rfl, rfl⟩)
       · have hkB : k - 1 < B.size := by omega
         by_cases hs47 : ((B[k - 1].toNat : Int) == 47) = true
         · have e1 : tagP B = (B, ByteArray.empty) := model_slash k0 hk hs47 hh.out.1 hh.out.2
           clear hh
           go_wp2
           go_ret2
           first | exact ⟨rfl, rfl⟩ | (rw [e1]; exact ⟨rfl, rfl⟩)
         · have hs47' : ((B[k - 1].toNat : Int) == 47) = false := by simpa using hs47
           clear hs47
           by_cases hs58 : ((B[k - 1].toNat : Int) == 58) = true
           · have e1 : tagP B = (B.extract 0 (k - 1), B.extract k B.size) := model_colon k0 hk hs58 hh.out.1 hh.out.2
             clear hh
             have c1 : (0 : Int) ≤ ↑k - 1 := by omega
             have c2 : (↑k - 1 : Int) ≤ ↑B.size := by omega
             have c3 : (0 : Int) ≤ ↑k - 1 + 1 := by omega
             have c4 : (↑k - 1 + 1 : Int) ≤ ↑B.size := by omega
             go_wp2
             go_ret2
             first | exact ⟨rfl, rfl⟩ | (rw [e1]; exact ⟨rfl, rfl⟩)
           · have hs58' : ((B[k - 1].toNat : Int) == 58) = false := by simpa using hs58
             clear hs58
             have h2 := model_step k0 hk hs47' hs58' hh.out.1 hh.out.2
             have H2 : Hid (Lib.lastIndexByte B 58 = Lib.lastIdx B 58 (k - 1) ∧ Lib.lastIndexByte B 47 = Lib.lastIdx B 47 (k - 1)) := h2
             clear h2 hh
             go_wp2
             go_round
             case rel => exact ⟨k - 1, by omega, by congr 1; omega, rfl, rfl, H2⟩
             case measure => simp [RowKit.intOf]; omega

/-- zzModelSplit answers 'splitP'. -/
theorem model_any (s : ByteArray) (hs : s.size ≤ 2097152) (w : World) :
    Calls Try.prog 11 #[.string s] w fun e w' => e = .returned (.tuple #[.string (splitP s).1, .string (splitP s).2]) ∧ w' = w := by
  rcases indexByte_spec s.data.toList 64 with ⟨h, hn⟩ | ⟨p, h, hp, hat, hbe⟩
  · rw [splitP_miss h]
    refine model_miss s hs (fun k hk => at_ne s 64 k hk ?_) w
    intro e
    exact hn (List.mem_of_getElem? e)
  · rw [splitP_hit h]
    rw [← Lib.size_eq] at hp
    exact model_hit s _ _ p hs hp rfl rfl (by rw [size_extract _ _ (by omega)]; omega) (fun k hk => at_ne s 64 k (by omega) (hbe k hk)) (at_eq s 64 p hp hat) w

end Go.Proofs.Qxb6000104a
