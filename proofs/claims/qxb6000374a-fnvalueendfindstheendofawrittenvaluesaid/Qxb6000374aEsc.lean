/-
  THE WALK of zzEscapeQuotes (seat b6000374a).
-/
import Derived.Test.Qxb6000374aMem
namespace Go.Proofs.Qxb6000374a
open Go.RowKit

theorem one_u8 (x : Int) : ∀ u ∈ ([Value.int .u8 x] : List Value), u.oneCell' = true := by
  intro u hu; simp at hu; subst hu; rfl

theorem esc_special {C : List UInt8} {k : Nat} {x : UInt8} (hx : C[k]? = some x) (h : x = 34 ∨ x = 92) : esc (C.take (k + 1)) = esc (C.take k) ++ [92, x] := by
  rw [List.take_add_one, hx, esc_append]
  congr 1
  show esc [x] = _
  rw [esc_cons, if_pos h]; rfl

theorem esc_plain {C : List UInt8} {k : Nat} {x : UInt8} (hx : C[k]? = some x) (h : ¬ (x = 34 ∨ x = 92)) : esc (C.take (k + 1)) = esc (C.take k) ++ [x] := by
  rw [List.take_add_one, hx, esc_append]
  congr 1
  show esc [x] = _
  rw [esc_cons, if_neg h]; rfl

theorem esc_room (C : List UInt8) (k n : Nat) (hk : k ≤ n) : (esc (C.take k)).length ≤ 2 * n := by
  have := esc_le (C.take k)
  have := List.length_take_le k C
  omega

theorem spec_of {x : UInt8} (h : ((x.toNat : Int) == 34) = true ∨ ((x.toNat : Int) == 92) = true) : x = 34 ∨ x = 92 := by
  simp only [beq_iff_eq] at h
  rcases h with h | h
  · left; exact UInt8.toNat_inj.1 (by show x.toNat = 34; omega)
  · right; exact UInt8.toNat_inj.1 (by show x.toNat = 92; omega)

theorem spec_not {x : UInt8} (h : ((x.toNat : Int) == 34) = false) (h2 : ((x.toNat : Int) == 92) = false) : ¬ (x = 34 ∨ x = 92) := by
  simp only [beq_eq_false_iff_ne] at h h2
  rintro (e | e)
  · exact h (by rw [e]; rfl)
  · exact h2 (by rw [e]; rfl)

theorem not_special {x : UInt8} (h : ¬ (x = 34 ∨ x = 92)) : ((x.toNat : Int) == 34) = false ∧ ((x.toNat : Int) == 92) = false := by
  simp only [not_or] at h
  constructor
  · simp; intro e; exact h.1 (UInt8.toNat_inj.1 (by show x.toNat = 34; omega))
  · simp; intro e; exact h.2 (UInt8.toNat_inj.1 (by show x.toNat = 92; omega))

/-- A new block, then an append to a row of the call's own: nothing old has turned. -/
theorem below_step {B g : Nat} {w wr w2 : World} {o : Obj} (hbel : Below B w wr) (hB : B ≤ wr.heap.size) (hg : (wr.alloc o).grownBy w2 (some g)) (hgB : B ≤ g) : Below B w w2 ∧ B ≤ w2.heap.size := by
  have h1 := hbel.alloc hB o
  have hs : B ≤ (wr.alloc o).heap.size := by simp; omega
  have h2 := h1.grown hg hs (fun k h => by simp at h; omega)
  exact ⟨h2, Nat.le_trans hs hg.size⟩

set_option maxHeartbeats 400000 in
theorem esc_empty (ao : Option Addr) (c : Nat) (w : World) :
    Calls Try.prog 19 #[.slice ao 0 c] w fun e w' => e = .returned (.slice (some ⟨w.heap.size, 0, none⟩) 0 0) ∧ Below w.heap.size w w' := by
  obtain ⟨i0, hi, hz0, hz1, hz2⟩ := info_parts Try.info5
  go_enter Try.func19, Try.ntmps19
  go_wp2_with (at_make; refine wpList_make_own _ rfl _ _ 22 rfl w.heap.size 5 i0 (.int .u8 0) 1 Try.underlying22 hi hz0 hz1 .i64 .i64 _ 0 rfl rfl (by omega) (by rw [hz2]; omega) (by unfold maxLen; omega) (Nat.le_refl _) ?_; intro w1 hown1 hgrow1)
  have hbel1 : Below w.heap.size w w1 := (Below.refl _ _).grown hgrow1 (Nat.le_refl _) (fun k h => by cases h)
  clear hown1 hgrow1
  refine wp_loop_rounds 1 ?_
  rw [rounds_succ]
  go_wp2
  go_ret
  exact ⟨rfl, hbel1⟩

set_option maxHeartbeats 1000000 in
theorem esc_some (b off n c : Nat) (C : List UInt8) (hL : C.length = n) (hn : n ≤ 16777216) (w : World)
    (HC : Hid (∀ j x, C[j]? = some x → w.cell? ⟨b, off + j, none⟩ = some (.int .u8 (x.toNat : Int)))) (hbw : b < w.heap.size) :
    Calls Try.prog 19 #[.slice (some ⟨b, off, none⟩) n c] w fun e w' => e = .returned (.slice (some ⟨w.heap.size, 0, none⟩) (esc C).length (2 * n)) ∧
      w'.ownsRow w.heap.size 5 1 (.slice (some ⟨w.heap.size, 0, none⟩) (esc C).length (2 * n)) (esc C).length (vals (esc C)) ∧ Below w.heap.size w w' := by
  obtain ⟨i0, hi, hz0, hz1, hz2⟩ := info_parts Try.info5
  go_enter Try.func19, Try.ntmps19
  go_wp2_with (at_make; refine wpList_make_own _ rfl _ _ 22 rfl w.heap.size 5 i0 (.int .u8 0) 1 Try.underlying22 hi hz0 hz1 .i64 .i64 _ (2 * n) rfl rfl (by omega) (by rw [hz2]; omega) (by unfold maxLen; omega) (Nat.le_refl _) ?_; intro w1 hown1 hgrow1)
  have hbel1 : Below w.heap.size w w1 := (Below.refl _ _).grown hgrow1 (Nat.le_refl _) (fun k h => by cases h)
  clear hgrow1
  go_loopw [3, 4, 5] (fun s3 s4 _ wr => ∃ k m : Nat, k ≤ n ∧ s4 = .int .i64 k ∧ s3 = .slice (some ⟨w.heap.size, 0, none⟩) m (2 * n) ∧ Hid (m = (esc (C.take k)).length) ∧
      wr.ownsRow w.heap.size 5 1 (.slice (some ⟨w.heap.size, 0, none⟩) m (2 * n)) m (vals (esc (C.take k))) ∧ Below w.heap.size w wr)
    (fun _ s4 _ _ => n - (intOf s4).toNat)
  case atStart => exact ⟨0, 0, Nat.zero_le _, rfl, rfl, rfl, hown1, hbel1⟩
  case round =>
    obtain ⟨k, m, hk, rfl, rfl, hm, hown, hbel⟩ := hrel
    clear hown1 hbel1
    have hwz := hbel.size
    by_cases hlt : k < n
    · obtain ⟨x, hx⟩ : ∃ x, C[k]? = some x := ⟨C[k]'(by omega), List.getElem?_eq_getElem _⟩
      have hcx : wr.cell? ⟨b, off + k, none⟩ = some (.int .u8 (x.toNat : Int)) := (hbel.cell hbw).trans (HC.out k x hx)
      have hroom := esc_room C (k + 1) n (by omega)
      by_cases hs : x = 34 ∨ x = 92
      · have he := esc_special hx hs
        rw [he, List.length_append] at hroom
        have hr2 : m + 2 ≤ 2 * n := by have := hm.out; simp at hroom; omega
        have HE : Hid (esc (C.take (k + 1)) = esc (C.take k) ++ [92, x]) := he
        have hsp : ((x.toNat : Int) == 34) = true ∨ ((x.toNat : Int) == 92) = true := by rcases hs with rfl | rfl <;> simp
        clear hroom he hs hx
        cases h34 : ((x.toNat : Int) == 34)
        · have h92 : ((x.toNat : Int) == 92) = true := by
            rcases hsp with h | h
            · rw [h34] at h; cases h
            · exact h
          clear hsp
          go_wp2_with (first
            | (at_builtin; refine wpList_append_fits _ rfl (.tmp 26) (.tmp 27) 22 rfl w.heap.size 5 i0 1 Try.underlying22 hi hz1 w.heap.size m (2 * n) _ rfl (hown.alloc _) ⟨wr.heap.size, 0, none⟩ 1 1 [.int .u8 92] rfl rfl (cell_one_new _ _ _) (one_u8 _) (by omega) ?_; intro w2 hown2 hgrow2)
            | (at_builtin; refine wpList_append_fits _ rfl (.tmp 29) (.tmp 31) 22 rfl w.heap.size 5 i0 1 Try.underlying22 hi hz1 w.heap.size (m + 1) (2 * n) _ rfl (hown2.alloc _) ⟨w2.heap.size, 0, none⟩ 1 1 [.int .u8 (x.toNat : Int)] rfl rfl (cell_one_new _ _ _) (one_u8 _) (by omega) ?_; intro w3 hown3 hgrow3))
          obtain ⟨hb2, hz3⟩ := below_step hbel hwz hgrow2 (Nat.le_refl _)
          obtain ⟨hb3, _⟩ := below_step hb2 hz3 hgrow3 (Nat.le_refl _)
          go_roundw
          case rel => exact ⟨k + 1, m + 2, by omega, by go_num, rfl, by show _ = _; rw [HE.out, List.length_append, ← hm.out]; rfl, by rw [HE.out, vals_append]; simpa [vals] using hown3, hb3⟩
          case measure => simp [intOf]; omega
        · clear hsp
          go_wp2_with (first
            | (at_builtin; refine wpList_append_fits _ rfl (.tmp 26) (.tmp 27) 22 rfl w.heap.size 5 i0 1 Try.underlying22 hi hz1 w.heap.size m (2 * n) _ rfl (hown.alloc _) ⟨wr.heap.size, 0, none⟩ 1 1 [.int .u8 92] rfl rfl (cell_one_new _ _ _) (one_u8 _) (by omega) ?_; intro w2 hown2 hgrow2)
            | (at_builtin; refine wpList_append_fits _ rfl (.tmp 29) (.tmp 31) 22 rfl w.heap.size 5 i0 1 Try.underlying22 hi hz1 w.heap.size (m + 1) (2 * n) _ rfl (hown2.alloc _) ⟨w2.heap.size, 0, none⟩ 1 1 [.int .u8 (x.toNat : Int)] rfl rfl (cell_one_new _ _ _) (one_u8 _) (by omega) ?_; intro w3 hown3 hgrow3))
          obtain ⟨hb2, hz3⟩ := below_step hbel hwz hgrow2 (Nat.le_refl _)
          obtain ⟨hb3, _⟩ := below_step hb2 hz3 hgrow3 (Nat.le_refl _)
          go_roundw
          case rel => exact ⟨k + 1, m + 2, by omega, by go_num, rfl, by show _ = _; rw [HE.out, List.length_append, ← hm.out]; rfl, by rw [HE.out, vals_append]; simpa [vals] using hown3, hb3⟩
          case measure => simp [intOf]; omega
      · have he := esc_plain hx hs
        rw [he, List.length_append] at hroom
        have hr2 : m + 1 ≤ 2 * n := by have := hm.out; simp at hroom; omega
        have HE : Hid (esc (C.take (k + 1)) = esc (C.take k) ++ [x]) := he
        obtain ⟨h34, h92⟩ := not_special hs
        clear hroom he hs hx
        go_wp2_with (at_builtin; refine wpList_append_fits _ rfl (.tmp 29) (.tmp 31) 22 rfl w.heap.size 5 i0 1 Try.underlying22 hi hz1 w.heap.size m (2 * n) _ rfl (hown.alloc _) ⟨wr.heap.size, 0, none⟩ 1 1 [.int .u8 (x.toNat : Int)] rfl rfl (cell_one_new _ _ _) (one_u8 _) (by omega) ?_; intro w2 hown2 hgrow2)
        obtain ⟨hb2, _⟩ := below_step hbel hwz hgrow2 (Nat.le_refl _)
        go_roundw
        case rel => exact ⟨k + 1, m + 1, by omega, by go_num, rfl, by show _ = _; rw [HE.out, List.length_append, ← hm.out]; rfl, by rw [HE.out, vals_append]; simpa [vals] using hown2, hb2⟩
        case measure => simp [intOf]; omega
    · have hkn : k = n := by omega
      have hmm := hm.out
      rw [hkn, List.take_of_length_le (by omega)] at hown hmm
      subst hmm
      clear hm
      go_wp2
      go_ret
      exact ⟨rfl, hown, hbel⟩

/-- zzEscapeQuotes. -/
theorem esc_any (ao : Option Addr) (n c : Nat) (C : List UInt8) (hn : n ≤ 16777216) (w : World) (h : RowOf w ao n c C) :
    Calls Try.prog 19 #[.slice ao n c] w fun e w' => ∃ ao' c', e = .returned (.slice ao' (esc C).length c') ∧ RowOf w' ao' (esc C).length c' (esc C) ∧ Below w.heap.size w w' := by
  obtain ⟨hL, hnc, hnil, hcells⟩ := h
  by_cases h0 : n = 0
  · subst h0
    have : C = [] := List.eq_nil_of_length_eq_zero hL
    subst this
    refine (esc_empty ao c w).mono fun e w' h => ⟨_, 0, h.1, ⟨rfl, Nat.le_refl _, fun e => by simp at e, fun ad' _ j u hu => ?_⟩, h.2⟩
    simp [vals, esc] at hu
  · cases ao with
    | none => exact absurd (hnil rfl).1 h0
    | some ad =>
      obtain ⟨b, off, spot⟩ := ad
      obtain ⟨x, hx⟩ : ∃ x, C[0]? = some x := ⟨C[0]'(by omega), List.getElem?_eq_getElem _⟩
      have hc0 := hcells _ rfl 0 _ (vals_at hx)
      have hspot : spot = none := by simpa [Addr.add] using World.cell?_spot hc0
      subst hspot
      have hb := World.block_lt_of_cell? w _ hc0
      rw [Addr.add_lit] at hb
      refine (esc_some b off n c C hL hn w (fun j x hx => ?_) hb).mono fun e w' h => ⟨_, _, h.1, RowOf.own rfl ?_ h.2.1, h.2.2⟩
      · have := hcells _ rfl j _ (vals_at hx)
        rw [Addr.add_lit] at this
        exact this
      · have := esc_le C; omega

end Go.Proofs.Qxb6000374a
