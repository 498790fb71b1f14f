/-
  strings.ContainsAny(s, ".:") at whatever s.
-/
import Derived.Test.Qxb6000104aRune
import Derived.Lib.OthersKept
import Derived.Lib.IndexAny
namespace Go.Proofs.Qxb6000104a
open Go.RowKit

theorem get_bang (s : ByteArray) (j : Nat) (hj : j < s.size) : s.get! j = s[j] := by
  simp [ByteArray.get!, getElem!_pos, hj]
  rfl

/-- A rune whose first byte is no ASCII byte: all its bytes lie in s, none of them is an ASCII byte. -/
theorem decode_bytes (s : ByteArray) (i : Nat) (hi : i < s.size) (ha : 128 ≤ (s[i]).toNat) :
    128 ≤ (Utf8.decode s i).1 ∧ 1 ≤ (Utf8.decode s i).2 ∧ ∀ j, j < (Utf8.decode s i).2 → i + j < s.size ∧ 128 ≤ (s.get! (i + j)).toNat := by
  obtain ⟨h1, h2⟩ := decode_high s i hi ha
  refine ⟨h1, h2, ?_⟩
  have h0 : 128 ≤ (s.get! (i + 0)).toNat := by rw [get_at s i hi]; exact ha
  have one : ∀ j, j < 1 → i + j < s.size ∧ 128 ≤ (s.get! (i + j)).toNat := by
    intro j hj
    obtain rfl : j = 0 := by omega
    exact ⟨hi, h0⟩
  intro j
  simp only [Utf8.decode]
  have hn : ¬ (s.get! (i + 0)).toNat < 128 := by omega
  rw [if_neg hn]
  split
  · rename_i c
    simp only [Bool.and_eq_true, decide_eq_true_eq, beq_iff_eq] at c
    split
    · intro hj
      simp only at hj
      rcases (show j = 0 ∨ j = 1 from by omega) with rfl | rfl
      · exact ⟨hi, h0⟩
      · exact ⟨c.2.1, by omega⟩
    · exact one j
  · split
    · rename_i c
      simp only [Bool.and_eq_true, decide_eq_true_eq, beq_iff_eq] at c
      split
      · intro hj
        simp only at hj
        rcases (show j = 0 ∨ j = 1 ∨ j = 2 from by omega) with rfl | rfl | rfl
        · exact ⟨hi, h0⟩
        · exact ⟨c.1.2.1, by omega⟩
        · exact ⟨c.2.1, by omega⟩
      · exact one j
    · split
      · rename_i c
        simp only [Bool.and_eq_true, decide_eq_true_eq, beq_iff_eq] at c
        split
        · intro hj
          simp only at hj
          rcases (show j = 0 ∨ j = 1 ∨ j = 2 ∨ j = 3 from by omega) with rfl | rfl | rfl | rfl
          · exact ⟨hi, h0⟩
          · exact ⟨c.1.1.2.1, by omega⟩
          · exact ⟨c.1.2.1, by omega⟩
          · exact ⟨c.2.1, by omega⟩
        · exact one j
      · exact one j

theorem no_high {s cs : ByteArray} (HA : ∀ i (h : i < cs.size), cs[i].toNat < 128) {i n : Nat} (h : Lib.NoAny s.data.toList cs.data.toList i)
    (hb : ∀ j, j < n → i + j < s.size ∧ 128 ≤ (s.get! (i + j)).toNat) : Lib.NoAny s.data.toList cs.data.toList (i + n) := by
  intro j b hj hx
  by_cases h1 : j < i
  · exact h j b h1 hx
  · obtain ⟨k, rfl⟩ : ∃ k, j = i + k := ⟨j - i, by omega⟩
    obtain ⟨h2, h3⟩ := hb k (by omega)
    have e : b = s.get! (i + k) := by
      rw [get_bang s _ h2]
      have : s.data.toList[i + k]? = some s[i + k] := by
        rw [List.getElem?_eq_getElem (by rw [← Lib.size_eq]; exact h2)]; simp; rfl
      rw [this] at hx; exact (Option.some.inj hx).symm
    cases hc : cs.data.toList.contains b
    · rfl
    · exfalso
      have hm : b ∈ cs.data.toList := by simpa using hc
      obtain ⟨k', hk', e'⟩ := List.getElem_of_mem hm
      have hk2 : k' < cs.size := by rw [Lib.size_eq]; exact hk'
      have := HA k' hk2
      have e3 : cs[k'] = b := by rw [← e']; simp; rfl
      rw [e3, e] at this
      omega

set_option maxHeartbeats 1000000 in
set_option maxRecDepth 100000 in
theorem indexAny_short (s cs : ByteArray) (hcs : cs.size = 2) (HA : Hid (∀ i (h : i < cs.size), cs[i].toNat < 128)) (h8 : s.size ≤ 8) (w : World) :
    Calls Try.prog 34 #[.string s, .string cs] w fun e w' => e = .returned (.int .i64 (Lib.indexAny s.data.toList cs.data.toList)) ∧ Below w.heap.size w w' := by
  have hemp : cs.toList.isEmpty = false := by
    rw [Lib.toList_data]
    cases h : cs.data.toList with
    | nil => have := Lib.size_eq cs; rw [h, List.length_nil] at this; omega
    | cons _ _ => rfl
  have hn1 : ((cs.size : Int) == 1) = false := beq_eq_false_iff_ne.2 (by omega)
  have h8z : decide ((8 : Int) < (s.size : Int)) = false := decide_eq_false (by omega)
  go_enter Try.func34, Try.ntmps34
  go_wp2_with (go_at_call 38; refine (Try.strings_shouldUseASCIISet _ _).mono ?_; rintro e w' ⟨rfl, hw⟩; rw [hw, h8z])
  go_loopg [9, 10] s.size (fun g _ _ wx => ∃ i : Nat, i + g = s.size ∧ wx.heap[w.heap.size]? = some (.stringIter s i) ∧ Below w.heap.size w wx ∧ Hid (Lib.NoAny s.data.toList cs.data.toList i))
  case atStart => exact ⟨0, by omega, World.iter_heap _ _ _, (Below.refl _ _).alloc (Nat.le_refl _) _, Lib.NoAny.zero _ _⟩
  case round =>
    obtain ⟨i, hig, hit, hbel, HN⟩ := hrel
    have hsz : w.heap.size < wr.heap.size := (Array.getElem?_eq_some_iff.1 hit).1
    cases gk with
    | zero =>
      obtain rfl : i = s.size := by omega
      have hnx := fun ty => Lib.run_next_end_at (P := Try.prog) wr w.heap.size s s.size ty hit (by omega)
      clear hit
      go_wp2
      go_ret
      exact ⟨by rw [Lib.indexAny_none (by rw [← Lib.size_eq]; exact HN.out)]; rfl, hbel⟩
    | succ g =>
      have hi : i < s.size := by omega
      by_cases ha : s[i].toNat < 128
      · have hnx := fun ty => Lib.run_next_ascii_at (P := Try.prog) wr w.heap.size s i ty hit hi ha
        have hit2 := Lib.iterAt_heap wr w.heap.size s i (i + 1) hit
        have hbel2 := Lib.below_iterAt hbel (Nat.le_refl _) s (i + 1)
        obtain ⟨wi, hwi⟩ : ∃ wi, wr.iterAt w.heap.size s (i + 1) = wi := ⟨_, rfl⟩
        rw [hwi] at hit2 hbel2
        simp only [hwi] at hnx
        clear hit hbel hwi
        obtain ⟨x, hx⟩ : ∃ x : UInt8, s[i]'hi = x := ⟨_, rfl⟩
        have hxl : s.data.toList[i]? = some x := by
          rw [← hx, List.getElem?_eq_getElem (by rw [← Lib.size_eq]; exact hi)]; simp; rfl
        rw [hx] at hnx ha
        have Hx : Hid (s.data.toList[i]? = some x) := hxl
        clear hxl hx
        have hcon := Lib.contains_iff_indexByte cs.data.toList x
        have hback : ((x.toNat : Int)).toNat.toUInt8 = x := by simp
        cases hin : cs.data.toList.contains x
        · rw [hin] at hcon
          have hlt : ¬ ((0 : Int) ≤ Lib.indexByte cs.data.toList x) := of_decide_eq_false hcon.symm
          clear hcon
          go_wp2_with (go_at_call 37; refine (Try.strings_IndexRune_ascii _ _ _ (by omega) (by omega)).mono ?_; rintro e w' ⟨rfl, hw⟩; rw [hw, hback])
          go_roundg g
          case measure => omega
          case rel => exact ⟨i + 1, by omega, hit2, hbel2, HN.out.succ Hx.out hin⟩
        · rw [hin] at hcon
          have hge : (0 : Int) ≤ Lib.indexByte cs.data.toList x := of_decide_eq_true hcon.symm
          clear hcon
          go_wp2_with (go_at_call 37; refine (Try.strings_IndexRune_ascii _ _ _ (by omega) (by omega)).mono ?_; rintro e w' ⟨rfl, hw⟩; rw [hw, hback])
          go_ret
          exact ⟨by rw [Lib.indexAny_hit HN.out Hx.out hin]; rfl, hbel2⟩
      · obtain ⟨d1, d2, d3⟩ := decode_bytes s i hi (by omega)
        have hnx := fun ty => Lib.run_next_any_at (P := Try.prog) wr w.heap.size s i ty hit hi
        obtain ⟨r, hr⟩ : ∃ r : Nat, (Utf8.decode s i).1 = r := ⟨_, rfl⟩
        obtain ⟨n, hn⟩ : ∃ n : Nat, (Utf8.decode s i).2 = n := ⟨_, rfl⟩
        rw [hn] at d2 d3
        rw [hr] at d1
        simp only [hr, hn] at hnx
        clear hr hn
        have HN2 : Hid (Lib.NoAny s.data.toList cs.data.toList (i + n)) := no_high HA.out HN.out d3
        have hle := (d3 (n - 1) (by omega)).1
        clear d3 HN
        have hit2 := Lib.iterAt_heap wr w.heap.size s i (i + n) hit
        have hbel2 := Lib.below_iterAt hbel (Nat.le_refl _) s (i + n)
        have hsz2 := Lib.iterAt_size wr w.heap.size s (i + n)
        obtain ⟨wi, hwi⟩ : ∃ wi, wr.iterAt w.heap.size s (i + n) = wi := ⟨_, rfl⟩
        rw [hwi] at hit2 hbel2 hsz2
        simp only [hwi] at hnx
        have hsz3 : w.heap.size < wi.heap.size := by omega
        clear hit hbel hwi hsz2 hsz
        go_wp2_with (go_at_call 37; refine (rune_high cs hcs HA _ (by omega) _).mono ?_; rintro e w2 ⟨rfl, hb⟩)
        have hit3 : w2.heap[w.heap.size]? = some (.stringIter s (i + n)) := by rw [hb.block w.heap.size hsz3]; exact hit2
        have hbel3 := hbel2.trans (hb.mono (by omega))
        go_roundg (g + 1 - n)
        case measure => omega
        case rel => exact ⟨i + n, by omega, hit3, hbel3, HN2⟩

theorem info46 : (Try.prog.info? 46).map (fun i => (i.zero, i.size)) = some (some (.agg (Array.replicate 256 (.bool false))), 256) := by kernel_rfl

theorem indexAny_any (s cs : ByteArray) (hcs : cs.size = 2) (HA : Hid (∀ i (h : i < cs.size), cs[i].toNat < 128)) (hs : s.size ≤ 2097152) (w : World) :
    Calls Try.prog 34 #[.string s, .string cs] w fun e w' => e = .returned (.int .i64 (Lib.indexAny s.data.toList cs.data.toList)) ∧ Below w.heap.size w w' := by
  by_cases h8 : s.size ≤ 8
  · exact indexAny_short s cs hcs HA h8 w
  · refine (Try.strings_IndexAny_long (zero_of_info info46).1 s cs w (by omega) (by omega) (by omega) (by omega) ?_).mono fun e w' ⟨h1, h2⟩ => ⟨h1, ?_⟩
    · intro j b hb
      have hj : j < cs.size := by rw [Lib.size_eq]; exact (List.getElem?_eq_some_iff.1 hb).1
      have := HA.out j hj
      have e : cs.data.toList[j]? = some cs[j] := by
        rw [List.getElem?_eq_getElem (by rw [← Lib.size_eq]; exact hj)]; simp; rfl
      rw [e] at hb
      rw [← Option.some.inj hb]; exact this
    · rw [h2]
      exact ((Below.refl _ _).alloc (Nat.le_refl _) _).alloc (by simp) _

theorem dotColon (i : Nat) (h : i < (⟨#[46, 58]⟩ : ByteArray).size) : ((⟨#[46, 58]⟩ : ByteArray)[i]).toNat < 128 := by
  have h' : i < 2 := h
  rcases (show i = 0 ∨ i = 1 from by omega) with rfl | rfl
  · show (46 : UInt8).toNat < 128
    decide
  · show (58 : UInt8).toNat < 128
    decide

/-- strings.ContainsAny(s, ".:"). -/
theorem containsAny_any (s : ByteArray) (hs : s.size ≤ 2097152) (w : World) :
    Calls Try.prog 30 #[.string s, .string ⟨#[46, 58]⟩] w fun e w' => e = .returned (.bool (decide (0 ≤ Lib.indexAny s.data.toList [46, 58]))) ∧ Below w.heap.size w w' := by
  have HC : Hid (∀ w, Calls Try.prog 34 #[.string s, .string ⟨#[46, 58]⟩] w fun e w' => e = .returned (.int .i64 (Lib.indexAny s.data.toList [46, 58])) ∧ Below w.heap.size w w') :=
    fun w => indexAny_any s ⟨#[46, 58]⟩ rfl dotColon hs w
  go_enter Try.func30, Try.ntmps30
  go_wp2_with (go_at_call 34; refine (HC.out _).mono ?_; rintro e w' ⟨rfl, hw⟩)
  go_ret
  exact ⟨rfl, hw⟩

end Go.Proofs.Qxb6000104a
