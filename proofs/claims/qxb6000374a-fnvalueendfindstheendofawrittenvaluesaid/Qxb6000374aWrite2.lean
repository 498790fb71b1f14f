/-
  THE WALK of zzWriteValue at an empty program, and both in one (seat b6000374a).
-/
import Derived.Test.Qxb6000374aWrite
namespace Go.Proofs.Qxb6000374a
open Go.RowKit

set_option maxHeartbeats 4000000 in
set_option maxRecDepth 100000 in
theorem write_empty (ao : Option Addr) (c : Nat) (w : World) :
    Calls Try.prog 21 #[.slice ao 0 c] w fun e w' => ∃ g no cap T, e = .returned (.slice (some ⟨g, 0, none⟩) no cap) ∧ T.length = no ∧ no ≤ 1048576 ∧ IsVal T ∧
      w'.ownsRow w.heap.size 5 1 (.slice (some ⟨g, 0, none⟩) no cap) no (vals T) ∧ Below w.heap.size w w' := by
  obtain ⟨i0, hi, hz0, hz1, hz2⟩ := info_parts Try.info5
  go_enter Try.func21, Try.ntmps21
  go_wp2_with (first
    | (at_make; refine wpList_make_own _ rfl _ _ 22 rfl w.heap.size 5 i0 (.int .u8 0) 1 Try.underlying22 hi hz0 hz1 .i64 .i64 _ 64 rfl rfl (by omega) (by rw [hz2]; omega) (by unfold maxLen; omega) (Nat.le_refl _) ?_; intro w1 hown1 hgrow1; have B1 : Below w.heap.size w w1 := (Below.refl _ _).grown hgrow1 (Nat.le_refl _) (fun k h => by cases h))
    | (at_builtin; refine wpList_append_fits _ rfl (.tmp 13) (.tmp 14) 22 rfl w.heap.size 5 i0 1 Try.underlying22 hi hz1 w.heap.size 0 64 _ rfl (hown1.alloc _) ⟨w1.heap.size, 0, none⟩ 1 1 [.int .u8 91] rfl rfl (cell_one_new _ _ _) (one_u8 _) (by omega) ?_; intro w2 hown2 hgrow2; have B2 := below_step B1 B1.size hgrow2 (Nat.le_refl _)))
  have hI := inv_start (w := w) B2.2 B2.1 (own_lt hown2).2 hown2
  clear hown1 hgrow1 hown2 hgrow2 B1 B2
  obtain ⟨W0, hW0⟩ : ∃ W0, (w2.alloc (Obj.cells #[Value.int IntKind.u8 91] 5)).alloc (Obj.cells #[Value.bool true] 4) = W0 := ⟨_, rfl⟩
  go_loopg [3, 4, 5, 6] 0 (fun g s3 s4 s5 s6 wx => ∃ idx o co no k ck m f cf : Nat, idx + g = 0 ∧ s3 = .slice (some ⟨o, 0, none⟩) no co ∧ s4 = .slice (some ⟨k, 0, none⟩) m ck ∧ s5 = .slice (some ⟨f, 0, none⟩) m cf ∧ s6 = .int .i64 idx ∧
      1 ≤ m ∧ m ≤ idx + 1 ∧ no ≤ 1 + 13 * idx ∧ Inv w.heap.size w wx o co no k ck m f cf m)
  case atStart => exact ⟨0, w.heap.size, 64, 1, w2.heap.size, 1, 1, w2.heap.size + 1, 1, by omega, rfl, rfl, rfl, rfl, by omega, by omega, by omega, hI⟩
  case round =>
    obtain ⟨idx, o, co, no, k, ck, m, f, cf, hg, rfl, rfl, rfl, rfl, hm1, hm2, hno, hI2⟩ := hrel
    clear hI hW0
    cases gk with
    | zero =>
      have hidx : ¬ (idx : Int) < (0 : Int) := by omega
      go_wp2_with fail
      have hF : Fin w.heap.size w wr o co no k ck m f cf m := by
        obtain ⟨O, K, F, h1, h2⟩ := hI2
        exact ⟨O, K, F, h1, .inl ⟨hm1, h2⟩⟩
      clear hI2
      go_loopg [3, 4, 11] m (fun g s3 s4 _ wx => ∃ o co no k ck : Nat, s3 = .slice (some ⟨o, 0, none⟩) no co ∧ s4 = .slice (some ⟨k, 0, none⟩) g ck ∧ g ≤ 32769 ∧ no + g ≤ 2 ∧ Fin w.heap.size w wx o co no k ck g f cf m)
      case atStart => exact ⟨o, co, no, k, ck, rfl, rfl, by omega, by omega, hF⟩
      case round =>
        obtain ⟨o1, co1, no1, k1, ck1, rfl, rfl, hg2, hno2, hF2⟩ := hrel
        clear hF
        cases gk with
        | zero =>
          go_wp2
          go_ret
          obtain ⟨O, K, F, h1, h2⟩ := hF2
          have hv : IsVal O := by
            rcases h2 with ⟨h, _⟩ | ⟨_, h⟩
            · omega
            · exact h
          exact ⟨o1, no1, co1, O, rfl, h1.1.1, by omega, hv, h1.rowO, h1.bel⟩
        | succ g =>
          obtain ⟨O, K, F, h1, h2⟩ := hF2
          have hO : Open 0 O (g + 1) := by
            rcases h2 with ⟨_, h⟩ | ⟨h, _⟩
            · exact h
            · omega
          obtain rfl : O.length = no1 := h1.1.1
          obtain ⟨x, hx⟩ := h1.cellK (j := g) (by omega)
          have hrow := h1.rowO
          have hbase := h1.base
          have hcap := own_cap h1.rowK
          have hcap2 : (g : Int) ≤ (ck1 : Int) := by omega
          have HO : Hid (Open 0 O (g + 1)) := hO
          have HST : Hid (St w.heap.size w wr o1 co1 O.length k1 ck1 (g + 1) f cf m O K F) := h1
          clear h1 h2 hO
          go_wp2_with (go_at_call 33; refine (close_any w.heap.size o1 co1 O x _ (by omega) hbase hrow).mono ?_; rintro e w3 ⟨o2, co2, y, hy, rfl, ha⟩)
          have hfin := fin_close HST.out HO.out hy ha
          go_roundg g
          case measure => omega
          case rel => exact ⟨o2, co2, O.length + 1, k1, ck1, rfl, rfl, by omega, by omega, hfin⟩
    | succ g => omega

/-- zzWriteValue: the text of a value. -/
theorem write_any (ao : Option Addr) (n c : Nat) (R : List UInt8) (hn : n ≤ 32768) (w : World) (h : RowOf w ao n c R) :
    Calls Try.prog 21 #[.slice ao n c] w fun e w' => ∃ g no cap T, e = .returned (.slice (some ⟨g, 0, none⟩) no cap) ∧ T.length = no ∧ no ≤ 1048576 ∧ IsVal T ∧
      w'.ownsRow w.heap.size 5 1 (.slice (some ⟨g, 0, none⟩) no cap) no (vals T) ∧ Below w.heap.size w w' := by
  obtain ⟨hL, hnc, hnil, hcells⟩ := h
  by_cases h0 : n = 0
  · subst h0; exact write_empty ao c w
  · cases ao with
    | none => exact absurd (hnil rfl).1 h0
    | some ad =>
      obtain ⟨b, off, spot⟩ := ad
      obtain ⟨x, hx⟩ : ∃ x, R[0]? = some x := ⟨R[0]'(by omega), List.getElem?_eq_getElem _⟩
      have hc0 := hcells _ rfl 0 _ (vals_at hx)
      have hspot : spot = none := by simpa [Addr.add] using World.cell?_spot hc0
      subst hspot
      have hb := World.block_lt_of_cell? w _ hc0
      rw [Addr.add_lit] at hb
      refine write_some b off n c R hL hn w (fun j x hx => ?_) hb
      have := hcells _ rfl j _ (vals_at hx)
      rw [Addr.add_lit] at this
      exact this

end Go.Proofs.Qxb6000374a
