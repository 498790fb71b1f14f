/-
  THE WALK of StringEnd (seat b6000374a).
-/
import Derived.Test.Qxb6000374aRows
import Derived.Test.Qxb6000374aPlain
import Derived.WalkKit
import Derived.WalkSpells
import Derived.Lib.BytesEntry
import Derived.Lib.Bytealg
namespace Go.Proofs.Qxb6000374a
open Go.RowKit

/-- The numbers of a list of bytes. -/
def nums (L : List UInt8) : List Int := L.map fun b => (b.toNat : Int)

theorem bytesOf_nums (L : List UInt8) : Lib.bytesOf (nums L) = L := by
  induction L with
  | nil => rfl
  | cons b L ih => simp only [nums, Lib.bytesOf, List.map_cons, List.map_map] at *; simp [ih]

set_option maxHeartbeats 400000 in
theorem indexByte_at (b o n c : Nat) (xs : List Int) (cv : Int) (w : World) (hx : xs.length = n)
    (hc : ∀ i, i < n → w.cell? ⟨b, o + i, none⟩ = some (.int .u8 (xs.getD i 0))) :
    Calls Try.prog 32 #[.slice (some ⟨b, o, none⟩) n c, .int .u8 cv] w fun e w' => e = .returned (.int .i64 (Lib.indexByte (Lib.bytesOf xs) cv.toNat.toUInt8)) ∧ w' = w := by
  go_enter Try.func32, Try.ntmps32
  go_wp2
  rw [run_callFunc_extern Try.func37 (by kernel_rfl) (by kernel_rfl) (by kernel_rfl) (e := Extern.BytealgIndexByte.indexByte) (by kernel_rfl), Lib.run_indexByteSlice w b o n c xs hx hc cv]
  simp only [Result.andThen]
  rw [Oper.upon_value]
  go_wp2
  go_ret
  exact ⟨rfl, rfl⟩

theorem bsr_stop {L : List UInt8} {i : Nat} (hi : L[i]? = some 34) : ∀ m, i < m → bsr L m + i + 1 ≤ m := by
  intro m
  induction m with
  | zero => intro h; omega
  | succ m ih =>
    intro h
    unfold bsr
    split
    · rename_i hm
      by_cases e : m = i
      · subst e; rw [hi] at hm; simp at hm
      · have := ih (by omega); omega
    · omega

/-- The first quote at or behind place j. -/
theorem next_quote {L : List UInt8} {j q : Nat} (hj : j ≤ q) (hq : L[q]? = some 34) :
    ∃ k : Nat, Lib.indexByte (Lib.bytesOf (nums (L.drop j))) 34 = (k : Int) ∧ j + k ≤ q ∧ L[j + k]? = some 34 := by
  rw [bytesOf_nums]
  have key : ∀ (M : List UInt8) (r : Nat), M[r]? = some 34 → ∃ k : Nat, Lib.indexByte M 34 = (k : Int) ∧ k ≤ r ∧ M[k]? = some 34 := by
    intro M
    induction M with
    | nil => intro r h; simp at h
    | cons b M ih =>
      intro r h
      unfold Lib.indexByte
      by_cases hb : b = 34
      · exact ⟨0, by simp [hb], by omega, by simp [hb]⟩
      · have hb' : (b == 34) = false := by simpa using hb
        cases r with
        | zero => simp at h; exact absurd h hb
        | succ r =>
          obtain ⟨k, h1, h2, h3⟩ := ih r (by simpa using h)
          have hne : (((k : Nat) : Int) == -1) = false := by simp
          exact ⟨k + 1, by rw [hb', h1, hne]; simp, by omega, by simpa using h3⟩
  obtain ⟨k, h1, h2, h3⟩ := key (L.drop j) (q - j) (by rw [List.getElem?_drop, show j + (q - j) = q by omega]; exact hq)
  exact ⟨k, h1, by omega, by rw [List.getElem?_drop] at h3; exact h3⟩

theorem nums_getD (L : List UInt8) (t : Nat) (h : t < L.length) : (nums L).getD t 0 = (L[t].toNat : Int) := by
  simp [nums, List.getD, h]

theorem ret_int {k : IntKind} {a b : Int} (h : a = b) : Ending.returned (.int k a) = .returned (.int k b) := by rw [h]

theorem back_hit {L : List UInt8} {m e : Nat} {x : UInt8} (he : e + 1 ≤ m) (hx : L[m - 1 - e]? = some x) (h : ((x.toNat : Int) == 92) = true) (hh : bsr L m = e + bsr L (m - e)) :
    e + 1 ≤ bsr L m ∧ bsr L m = (e + 1) + bsr L (m - (e + 1)) := by
  have hx2 : x = 92 := UInt8.toNat_inj.1 (by simp at h; show x.toNat = 92; omega)
  rw [hx2] at hx
  have := bsr_hit hx
  rw [show m - 1 - e + 1 = m - e by omega, show m - 1 - e = m - (e + 1) by omega] at this
  omega

theorem back_miss {L : List UInt8} {m e : Nat} {x : UInt8} (he : e + 1 ≤ m) (hx : L[m - 1 - e]? = some x) (h : ((x.toNat : Int) == 92) = false) (hh : bsr L m = e + bsr L (m - e)) :
    bsr L m = e := by
  have hx2 : L[m - 1 - e]? ≠ some 92 := by
    rw [hx]; intro e2; cases e2; simp at h
  have := bsr_miss hx2
  rw [show m - 1 - e + 1 = m - e by omega] at this
  omega

set_option maxHeartbeats 1000000 in
/-- StringEnd at a string's opening quote: the place behind its closing quote. -/
theorem stringEnd_any (g n cap : Nat) (L : List UInt8) (hL : L.length = n) (hnc : n ≤ cap) (hn : n ≤ 16777216) (w : World)
    (HC : Hid (∀ t b, L[t]? = some b → w.cell? ⟨g, t, none⟩ = some (.int .u8 (b.toNat : Int)))) (i q : Nat) (hs : IsStr L i q) :
    Calls Try.prog 14 #[.slice (some ⟨g, 0, none⟩) n cap, .int .i64 i] w fun e w' => e = .returned (.int .i64 ((q : Int) + 1)) ∧ w' = w := by
  obtain ⟨hiq, hqn, hi34, hq34, heven, hodd⟩ := hs
  have HI : Hid (L[i]? = some 34) := hi34
  have HQ : Hid (L[q]? = some 34) := hq34
  have HE : Hid (bsr L q % 2 = 0) := heven
  have HO : Hid (∀ j, i < j → j < q → L[j]? = some 34 → bsr L j % 2 = 1) := hodd
  have HL : Hid (L.length = n) := hL
  rw [hL] at hqn
  clear hi34 hq34 heven hodd hL
  go_enter Try.func14, Try.ntmps14
  go_wp2
  go_loop [5, 6, 7] (fun s5 _ _ => ∃ j : Nat, i < j ∧ j ≤ q ∧ s5 = .int .i64 j) (fun s5 _ _ => n - (intOf s5).toNat)
  case atStart => exact ⟨i + 1, by omega, by omega, by go_num⟩
  case round =>
    obtain ⟨j, hij, hjq, rfl⟩ := hrel
    obtain ⟨k, hk, hkq, hat⟩ := next_quote hjq HQ.out
    have hcells : ∀ t, t < n - j → w.cell? ⟨g, j + t, none⟩ = some (.int .u8 ((nums (L.drop j)).getD t 0)) := by
      intro t ht
      have hlen : t < (L.drop j).length := by rw [List.length_drop, HL.out]; exact ht
      rw [nums_getD _ _ hlen]
      refine HC.out (j + t) _ ?_
      rw [← List.getElem?_drop, List.getElem?_eq_getElem hlen]
    have hxl : (nums (L.drop j)).length = n - j := by simp [nums, HL.out]
    have HCL : Hid (∀ t, t < n - j → w.cell? ⟨g, j + t, none⟩ = some (.int .u8 ((nums (L.drop j)).getD t 0))) := hcells
    have HX : Hid ((nums (L.drop j)).length = n - j) := hxl
    have HAT : Hid (L[j + k]? = some 34) := hat
    clear hcells hxl hat
    have c1 : (0 : Int) ≤ ↑j := by omega
    have c2 : (j : Int) ≤ ↑n := by omega
    have c3 : ¬ cap = j := by omega
    have c4 : (j : Int) < ↑n := by omega
    go_wp2_with (go_at_call 32; refine (indexByte_at g j (n - j) (cap - j) _ _ _ HX.out HCL.out).mono ?_; rintro e w1 ⟨rfl, rfl⟩)
    go_loop [7] (fun s7 => ∃ e : Nat, e ≤ bsr L (j + k) ∧ s7 = .int .i64 e ∧ Hid (bsr L (j + k) = e + bsr L (j + k - e))) (fun s7 => (j + k) - (intOf s7).toNat)
    case atStart => exact ⟨0, by omega, rfl, by show _ = _; simp⟩
    case round =>
      obtain ⟨e, heb, rfl, hh⟩ := hrel
      have hstop := bsr_stop HI.out (j + k) (by omega)
      obtain ⟨x, hx⟩ : ∃ x, L[j + k - 1 - e]? = some x := ⟨L[j + k - 1 - e]'(by rw [HL.out]; omega), List.getElem?_eq_getElem _⟩
      have hcell := HC.out _ _ hx
      have HX2 : Hid (L[j + k - 1 - e]? = some x) := hx
      clear hx
      go_wp2
      · have h92 : ((x.toNat : Int) == 92) = true := by assumption
        obtain ⟨r1, r2⟩ := back_hit (by omega) HX2.out h92 hh.out
        go_round
        case rel => exact ⟨e + 1, r1, by go_num, r2⟩
        case measure => simp [intOf]; omega
      · have h92 : ((x.toNat : Int) == 92) = false := by assumption
        have hev : ((e : Int) % 2 == 0) = true := by assumption
        have hb := back_miss (by omega) HX2.out h92 hh.out
        have : j + k = q := by
          rcases Nat.lt_or_ge (j + k) q with h | h
          · have := HO.out (j + k) (by omega) h HAT.out
            simp at hev
            omega
          · omega
        go_ret
        exact ⟨ret_int (by omega), rfl⟩
      · have h92 : ((x.toNat : Int) == 92) = false := by assumption
        have hev : ((e : Int) % 2 == 0) = false := by assumption
        have hb := back_miss (by omega) HX2.out h92 hh.out
        have : j + k < q := by
          rcases Nat.lt_or_ge (j + k) q with h | h
          · exact h
          · exfalso
            have e1 : j + k = q := by omega
            have := HE.out
            rw [← e1, hb] at this
            simp at hev
            omega
        go_round
        case rel => exact ⟨j + k + 1, by omega, by omega, by go_num⟩
        case measure => simp [intOf]; omega

end Go.Proofs.Qxb6000374a
