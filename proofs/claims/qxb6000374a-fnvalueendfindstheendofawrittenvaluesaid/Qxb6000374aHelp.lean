/-
  THE WALKS of zzConcat, zzCloseBracket, zzHexDigit, zzWriteStringByte (seat b6000374a).
-/
import Derived.Test.Qxb6000374aEsc
import Derived.Test.Qxb6000374aScan
import Derived.Deep.AppendLies
import Derived.Deep.RegionWith
namespace Go.Proofs.Qxb6000374a
open Go.RowKit

/-- The cells of a block that was just laid. -/
theorem cells_new (w : World) (xs : Array Value) (t : TypeId) : ∀ j u, xs.toList[j]? = some u → (w.alloc (.cells xs t)).cell? ((⟨w.heap.size, 0, none⟩ : Addr).add j) = some u := by
  intro j u hu
  rw [Addr.add_lit, Nat.zero_add, World.cell?_alloc_at _ _ _ _ rfl]
  simpa using hu

theorem grow_trans {w w1 w2 : World} {o g : Nat} (h1 : w.grownBy w1 (some o)) (h2 : w1.grownBy w2 (some g)) (hg : g = o ∨ w.heap.size ≤ g) : w.grownBy w2 (some o) :=
  ⟨h2.os.trans h1.os, h2.tape.trans h1.tape, h2.output.trans h1.output, Nat.le_trans h1.size h2.size, fun k hk hne =>
    (h2.block k (Nat.lt_of_lt_of_le hk h1.size) (fun e => by
      have e' : k = g := by simpa using e
      rcases hg with rfl | hg
      · exact hne (by rw [e'])
      · omega)).trans (h1.block k hk hne)⟩

/-- A block laid, then an append at the row o. -/
theorem grow_step {w w2 : World} {o : Nat} {x : Obj} (h : (w.alloc x).grownBy w2 (some o)) : w.grownBy w2 (some o) :=
  grow_trans (World.grownBy_alloc w x (some o)) h (.inl rfl)

/-- What an append leaves: the text N behind the text O, in the row o or in a new one; every other old block as it was. -/
def Appended (B o : Nat) (w w' : World) (O N : List UInt8) (g cap : Nat) : Prop :=
  w'.ownsRow B 5 1 (.slice (some ⟨g, 0, none⟩) (O.length + N.length) cap) (O.length + N.length) (vals (O ++ N)) ∧ w.grownBy w' (some o) ∧ (g = o ∨ w.heap.size ≤ g) ∧ g < w'.heap.size

theorem Appended.mk' {B o g cap n cap0 : Nat} {w w2 : World} {x : Obj} {O N : List UInt8}
    (hown : w2.ownsRow B 5 1 (.slice (some ⟨g, 0, none⟩) (O.length + N.length) cap) (O.length + N.length) (vals O ++ vals N))
    (hgrow : (w.alloc x).grownBy w2 (Value.ownBlock (.slice (some ⟨o, 0, none⟩) n cap0))) (hat : Value.ownBlock (.slice (some ⟨o, 0, none⟩) n cap0) = some g ∨ g = (w.alloc x).heap.size) (hlt : g < w2.heap.size) :
    Appended B o w w2 O N g cap := by
  refine ⟨by rw [vals_append]; exact hown, grow_step hgrow, ?_, hlt⟩
  rcases hat with h | h
  · left; simpa [Value.ownBlock] using h.symm
  · right; rw [h]; simp

set_option maxHeartbeats 400000 in
/-- zzConcat. -/
theorem concat_any (a0 a1 : Option Addr) (n0 c0 n1 c1 : Nat) (A C : List UInt8) (h0 : n0 ≤ 4194304) (h1 : n1 ≤ 4194304) (w : World) (r0 : RowOf w a0 n0 c0 A) (r1 : RowOf w a1 n1 c1 C) :
    Calls Try.prog 17 #[.slice a0 n0 c0, .slice a1 n1 c1] w fun e w' => e = .returned (.slice (some ⟨w.heap.size, 0, none⟩) (n0 + n1) (n0 + n1)) ∧
      w'.ownsRow w.heap.size 5 1 (.slice (some ⟨w.heap.size, 0, none⟩) (n0 + n1) (n0 + n1)) (n0 + n1) (vals (A ++ C)) ∧ Below w.heap.size w w' := by
  obtain ⟨i0, hi, hz0, hz1, hz2⟩ := info_parts Try.info5
  go_enter Try.func17, Try.ntmps17
  go_wp2_with (first
    | (at_make; refine wpList_make_own _ rfl _ _ 22 rfl w.heap.size 5 i0 (.int .u8 0) 1 Try.underlying22 hi hz0 hz1 .i64 .i64 _ (n0 + n1) rfl rfl (by omega) (by rw [hz2]; omega) (by unfold maxLen; omega) (Nat.le_refl _) ?_; intro w1 hown1 hgrow1; have B1 : Below w.heap.size w w1 := (Below.refl _ _).grown hgrow1 (Nat.le_refl _) (fun k h => by cases h))
    | (at_builtin; refine wpList_append_fits_any _ rfl (.tmp 12) (.tmp 13) 22 rfl w.heap.size 5 i0 1 Try.underlying22 hi hz1 w.heap.size 0 (n0 + n1) _ rfl hown1 a0 n0 c0 (vals A) rfl (by rw [vals_length, r0.1]; omega) r0.2.2.1 (r0.below B1).2.2.2 (vals_one _) (by omega) ?_; intro w2 hown2 hgrow2; simp only [Nat.zero_add, List.nil_append] at hown2; have B2 := B1.grown hgrow2 B1.size (fun k h => by simp at h; omega))
    | (at_builtin; refine wpList_append_fits_any _ rfl (.tmp 15) (.tmp 16) 22 rfl w.heap.size 5 i0 1 Try.underlying22 hi hz1 w.heap.size n0 (n0 + n1) _ rfl hown2 a1 n1 c1 (vals C) rfl (by rw [vals_length, r1.1]; omega) r1.2.2.1 (r1.below B2).2.2.2 (vals_one _) (by omega) ?_; intro w3 hown3 hgrow3; have B3 := B2.grown hgrow3 B2.size (fun k h => by simp at h; omega)))
  go_ret
  exact ⟨rfl, by rw [vals_append]; exact hown3, B3⟩

set_option maxHeartbeats 400000 in
/-- zzCloseBracket. -/
theorem close_any (B o cap : Nat) (O : List UInt8) (k : UInt8) (w : World) (hlen : O.length ≤ 16777216) (hB : B ≤ w.heap.size)
    (hown : w.ownsRow B 5 1 (.slice (some ⟨o, 0, none⟩) O.length cap) O.length (vals O)) :
    Calls Try.prog 33 #[.slice (some ⟨o, 0, none⟩) O.length cap, .int .u8 (k.toNat : Int)] w fun e w' => ∃ g cap' x, (x = 125 ∨ x = 93) ∧ e = .returned (.slice (some ⟨g, 0, none⟩) (O.length + 1) cap') ∧ Appended B o w w' O [x] g cap' := by
  obtain ⟨i0, hi, hz0, hz1, hz2⟩ := info_parts Try.info5
  cases hk : ((k.toNat : Int) == 123)
  · go_enter Try.func33, Try.ntmps33
    go_wp2_with (at_builtin; refine wpList_append_lies _ rfl (.tmp 10) (.tmp 11) 22 rfl B 5 i0 (.int .u8 0) 1 1 Try.underlying22 hi hz0 hz1 hz2 rfl (by decide) (.slice (some ⟨o, 0, none⟩) O.length cap) O.length _ rfl (hown.alloc _) ⟨w.heap.size, 0, none⟩ 1 1 [.int .u8 93] rfl rfl (cell_one_new _ _ _) (one_u8 _) (by omega) (by unfold maxLen; omega) (by omega) (by simp; omega) _ rfl ?_; intro g cap1 w1 hown1 hgrow1 hat1 hlt1)
    go_ret
    exact ⟨g, cap1, 93, .inr rfl, rfl, Appended.mk' (N := [93]) hown1 hgrow1 hat1 hlt1⟩
  · go_enter Try.func33, Try.ntmps33
    go_wp2_with (at_builtin; refine wpList_append_lies _ rfl (.tmp 7) (.tmp 8) 22 rfl B 5 i0 (.int .u8 0) 1 1 Try.underlying22 hi hz0 hz1 hz2 rfl (by decide) (.slice (some ⟨o, 0, none⟩) O.length cap) O.length _ rfl (hown.alloc _) ⟨w.heap.size, 0, none⟩ 1 1 [.int .u8 125] rfl rfl (cell_one_new _ _ _) (one_u8 _) (by omega) (by unfold maxLen; omega) (by omega) (by simp; omega) _ rfl ?_; intro g cap1 w1 hown1 hgrow1 hat1 hlt1)
    go_ret
    exact ⟨g, cap1, 125, .inl rfl, rfl, Appended.mk' (N := [125]) hown1 hgrow1 hat1 hlt1⟩

end Go.Proofs.Qxb6000374a
