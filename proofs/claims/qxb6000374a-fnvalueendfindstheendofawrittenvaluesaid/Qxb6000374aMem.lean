/-
  THE MEMORY LAYER of seat b6000374a: a slice of bytes that holds a list; zzClone.
-/
import Derived.Test.Qxb6000374aEnd
import Derived.WalkLawsBesides
namespace Go.Proofs.Qxb6000374a
open Go.RowKit

theorem Try.info5 : (Try.prog.info? 5).map (fun i => (i.zero, i.size, i.bytes)) = some (some (.int .u8 0), 1, 1) := by kernel_rfl

/-- The cells of a list of bytes. -/
def vals (L : List UInt8) : List Value := L.map fun b => .int .u8 (b.toNat : Int)

theorem vals_length (L : List UInt8) : (vals L).length = L.length := by simp [vals]
theorem vals_append (a b : List UInt8) : vals (a ++ b) = vals a ++ vals b := by simp [vals]
theorem vals_one (L : List UInt8) : ∀ u ∈ vals L, u.oneCell' = true := by
  intro u hu
  obtain ⟨_, _, rfl⟩ := List.mem_map.1 hu
  rfl
theorem vals_at {L : List UInt8} {j : Nat} {b : UInt8} (h : L[j]? = some b) : (vals L)[j]? = some (.int .u8 (b.toNat : Int)) := by
  simp [vals, h]

/-- The slice value '.slice ao n c' holds the bytes L in the world w. -/
def RowOf (w : World) (ao : Option Addr) (n c : Nat) (L : List UInt8) : Prop :=
  L.length = n ∧ n ≤ c ∧ (ao = none → n = 0 ∧ c = 0) ∧ ∀ ad, ao = some ad → ∀ j u, (vals L)[j]? = some u → w.cell? (ad.add j) = some u

theorem RowOf.below {w w' : World} {ao : Option Addr} {n c : Nat} {L : List UInt8} (h : RowOf w ao n c L) (hb : Below w.heap.size w w') : RowOf w' ao n c L :=
  ⟨h.1, h.2.1, h.2.2.1, fun ad had j u hu => by
    have := h.2.2.2 ad had j u hu
    rw [hb.cell (World.block_lt_of_cell? w _ this)]
    exact this⟩

/-- A row of the call's own holds its bytes. -/
theorem RowOf.own {w : World} {base n cap g : Nat} {L : List UInt8} (hL : L.length = n) (hnc : n ≤ cap) (h : w.ownsRow base 5 1 (.slice (some ⟨g, 0, none⟩) n cap) n (vals L)) : RowOf w (some ⟨g, 0, none⟩) n cap L := by
  refine ⟨hL, hnc, fun e => by simp at e, fun ad had j u hu => ?_⟩
  obtain rfl := Option.some.inj had
  have hj : j < n := by
    have := (List.getElem?_eq_some_iff.1 hu).1
    rw [vals_length] at this; omega
  rw [Addr.add_lit, Nat.zero_add, h.cellAt j (by omega)]
  exact hu

theorem clone_row {L : List UInt8} {k n : Nat} (hL : L.length = n) (hk : k < n) {b : UInt8} (hb : L[k]? = some b) :
    (vals (L.take k) ++ List.replicate (n - k) (Value.int .u8 0)).set k (Value.int .u8 (b.toNat : Int)) = vals (L.take (k + 1)) ++ List.replicate (n - (k + 1)) (Value.int .u8 0) := by
  have hl : (vals (L.take k)).length = k := by rw [vals_length, List.length_take]; omega
  rw [List.set_append_right _ _ (by omega), hl, Nat.sub_self, show n - k = (n - (k + 1)) + 1 by omega, List.replicate_succ, List.set_cons_zero,
    List.take_add_one, hb, vals_append]
  simp [vals]

theorem made_row (n : Nat) : (madeCells (Value.int .u8 0).cells (n * 1)).toList = vals ([] : List UInt8) ++ List.replicate n (.int .u8 0) := by
  rw [Nat.mul_one]
  show (madeCells #[Value.int .u8 0] n).toList = _
  rw [toList_madeCells_one]
  simp [vals]

set_option maxHeartbeats 1000000 in
theorem clone_some (b off n c : Nat) (L : List UInt8) (hL : L.length = n) (hn : n ≤ 16777216) (w : World)
    (HC : Hid (∀ j x, L[j]? = some x → w.cell? ⟨b, off + j, none⟩ = some (.int .u8 (x.toNat : Int)))) (hbw : b < w.heap.size) :
    Calls Try.prog 13 #[.slice (some ⟨b, off, none⟩) n c] w fun e w' => e = .returned (.slice (some ⟨w.heap.size, 0, none⟩) n n) ∧
      w'.ownsRow w.heap.size 5 1 (.slice (some ⟨w.heap.size, 0, none⟩) n n) n (vals L) ∧ Below w.heap.size w w' := by
  obtain ⟨i0, hi, hz0, hz1, hz2⟩ := info_parts Try.info5
  have heq := fun w => Lib.run_eql_slice_nil (P := Try.prog) w 22 5 (some ⟨b, off, none⟩) n c 0 0 Try.underlying22
  go_enter Try.func13, Try.ntmps13
  go_wp2_with (at_make; refine wpList_make_full _ rfl _ _ 22 rfl w.heap.size 5 i0 (.int .u8 0) 1 Try.underlying22 hi hz0 hz1 .i64 .i64 _ _ n rfl rfl (by omega) (by omega) (by rw [hz2]; omega) (by unfold maxLen; omega) (Nat.le_refl _) ?_; intro w1 hown1 hgrow1)
  have hbel1 : Below w.heap.size w w1 := (Below.refl _ _).grown hgrow1 (Nat.le_refl _) (fun k h => by cases h)
  rw [made_row] at hown1
  clear hgrow1
  go_loopw [4] (fun s4 wr => ∃ k : Nat, k ≤ n ∧ s4 = .int .i64 k ∧ wr.ownsRow w.heap.size 5 1 (.slice (some ⟨w.heap.size, 0, none⟩) n n) n (vals (L.take k) ++ List.replicate (n - k) (Value.int .u8 0)) ∧ Below w.heap.size w wr)
    (fun s4 _ => n - (intOf s4).toNat)
  case atStart => exact ⟨0, Nat.zero_le _, rfl, by simpa using hown1, hbel1⟩
  case round =>
    obtain ⟨k, hk, rfl, hown, hbel⟩ := hrel
    clear hown1 hbel1
    by_cases hlt : k < n
    · obtain ⟨x, hx⟩ : ∃ x, L[k]? = some x := ⟨L[k]'(by omega), List.getElem?_eq_getElem _⟩
      have hcx : wr.cell? ⟨b, off + k, none⟩ = some (.int .u8 (x.toNat : Int)) := (hbel.cell hbw).trans (HC.out k x hx)
      obtain ⟨u, hu⟩ : ∃ u, wr.cell? ⟨w.heap.size, k, none⟩ = some u := by
        rw [hown.cellAt k (by omega)]
        exact ⟨_, List.getElem?_eq_getElem (by rw [hown.1]; omega)⟩
      have hfr := hown.frozenAt k
      have R := (hown.stored k (.int .u8 (x.toNat : Int))).1
      rw [clone_row hL hlt hx] at R
      have hb2 := hbel.setCell (p := ⟨w.heap.size, k, none⟩) (Nat.le_refl _) (.int .u8 (x.toNat : Int))
      clear hown hbel hx
      go_wp2
      go_roundw
      case rel => exact ⟨k + 1, by omega, by go_num, R, hb2⟩
      case measure => simp [intOf]; omega
    · have hkn : k = n := by omega
      rw [hkn, List.take_of_length_le (by omega), Nat.sub_self, List.replicate_zero, List.append_nil] at hown
      go_wp2
      go_ret
      exact ⟨rfl, hown, hbel⟩

set_option maxHeartbeats 400000 in
theorem clone_empty (ad : Addr) (c : Nat) (w : World) :
    Calls Try.prog 13 #[.slice (some ad) 0 c] w fun e w' => e = .returned (.slice (some ⟨w.heap.size, 0, none⟩) 0 0) ∧ Below w.heap.size w w' := by
  obtain ⟨i0, hi, hz0, hz1, hz2⟩ := info_parts Try.info5
  have heq := fun w => Lib.run_eql_slice_nil (P := Try.prog) w 22 5 (some ad) 0 c 0 0 Try.underlying22
  go_enter Try.func13, Try.ntmps13
  go_wp2_with (at_make; refine wpList_make_full _ rfl _ _ 22 rfl w.heap.size 5 i0 (.int .u8 0) 1 Try.underlying22 hi hz0 hz1 .i64 .i64 _ _ 0 rfl rfl (by omega) (by omega) (by rw [hz2]; omega) (by unfold maxLen; omega) (Nat.le_refl _) ?_; intro w1 hown1 hgrow1)
  have hbel1 : Below w.heap.size w w1 := (Below.refl _ _).grown hgrow1 (Nat.le_refl _) (fun k h => by cases h)
  clear hown1 hgrow1
  refine wp_loop_rounds 1 ?_
  rw [rounds_succ]
  go_wp2
  go_ret
  exact ⟨rfl, hbel1⟩

/-- zzClone at a nil slice. -/
theorem clone_nil (w : World) : Calls Try.prog 13 #[.slice none 0 0] w fun e w' => e = .returned (.slice none 0 0) ∧ w' = w := by
  have heq := fun w => Lib.run_eql_slice_nil (P := Try.prog) w 22 5 none 0 0 0 0 Try.underlying22
  go_enter Try.func13, Try.ntmps13
  go_wp2
  go_ret
  exact ⟨rfl, rfl⟩

/-- zzClone: a slice that holds the same bytes; nothing old has turned. -/
theorem clone_any (ao : Option Addr) (n c : Nat) (L : List UInt8) (hn : n ≤ 16777216) (w : World) (h : RowOf w ao n c L) :
    Calls Try.prog 13 #[.slice ao n c] w fun e w' => ∃ ao' c', e = .returned (.slice ao' n c') ∧ RowOf w' ao' n c' L ∧ Below w.heap.size w w' := by
  obtain ⟨hL, hnc, hnil, hcells⟩ := h
  cases ao with
  | none =>
    obtain ⟨rfl, rfl⟩ := hnil rfl
    exact (clone_nil w).mono fun e w' h => ⟨none, 0, h.1, h.2 ▸ ⟨hL, Nat.le_refl _, fun _ => ⟨rfl, rfl⟩, fun ad had => by simp at had⟩, h.2 ▸ Below.refl _ _⟩
  | some ad =>
    by_cases h0 : n = 0
    · subst h0
      refine (clone_empty ad c w).mono fun e w' h => ⟨_, 0, h.1, ⟨hL, Nat.le_refl _, fun e => by simp at e, fun ad' _ j u hu => ?_⟩, h.2⟩
      have : L = [] := List.eq_nil_of_length_eq_zero hL
      subst this
      simp [vals] at hu
    · obtain ⟨b, off, spot⟩ := ad
      obtain ⟨x, hx⟩ : ∃ x, L[0]? = some x := ⟨L[0]'(by omega), List.getElem?_eq_getElem _⟩
      have hc0 := hcells _ rfl 0 _ (vals_at hx)
      have hspot : spot = none := by simpa [Addr.add] using World.cell?_spot hc0
      subst hspot
      have hb := World.block_lt_of_cell? w _ hc0
      rw [Addr.add_lit] at hb
      refine (clone_some b off n c L hL hn w (fun j x hx => ?_) hb).mono fun e w' h => ⟨_, n, h.1, RowOf.own hL (Nat.le_refl _) h.2.1, h.2.2⟩
      have := hcells _ rfl j _ (vals_at hx)
      rw [Addr.add_lit] at this
      exact this

end Go.Proofs.Qxb6000374a
