/-
  THE WALK of zzWriteValue (seat b6000374a).
-/
import Derived.Test.Qxb6000374aState
import Derived.Deep.DeepCutAuto
import Derived.Deep.LoopGhost
namespace Go.Proofs.Qxb6000374a
open Go.RowKit

/-- The state at the head of the loops, its lists hidden. -/
def Inv (B : Nat) (w0 wr : World) (o co no k ck mk f cf mf : Nat) : Prop := ∃ O K F, St B w0 wr o co no k ck mk f cf mf O K F ∧ Open 0 O mk

/-- The state of the closing loop: g brackets are open; or the value is whole. -/
def Fin (B : Nat) (w0 wr : World) (o co no k ck mk f cf mf : Nat) : Prop := ∃ O K F, St B w0 wr o co no k ck mk f cf mf O K F ∧ ((1 ≤ mk ∧ Open 0 O mk) ∨ (mk = 0 ∧ IsVal O))

theorem vs_close {x : UInt8} (hx : x = 125 ∨ x = 93) (d : Nat) (hd : 1 ≤ d) : vs 0 (d + 1) [x] = some (0, d) := by
  rw [vs_out, if_neg (by rcases hx with rfl | rfl <;> decide), if_neg (by rcases hx with rfl | rfl <;> decide), if_pos hx, if_neg (by omega), vs_nil]
  simp

theorem inv_close {B o co no k ck g f cf o2 co2 : Nat} {w0 wr w2 : World} {O K : List UInt8} {F : List Bool} {x : UInt8} (h : St B w0 wr o co no k ck (g + 1) f cf (g + 1) O K F) (hO : Open 0 O (g + 1)) (hg : 1 ≤ g)
    (hx : x = 125 ∨ x = 93) (ha : Appended B o wr w2 O [x] o2 co2) : Inv B w0 w2 o2 co2 (no + 1) k ck g f cf g :=
  ⟨O ++ [x], K.take g, F.take g, (h.out ha).popK.popF, hO.append (vs_close hx g hg)⟩

theorem cells_new2 (w : World) (xs : Array Value) (t : TypeId) (a : Nat) (h : a = w.heap.size) : ∀ j u, xs.toList[j]? = some u → (w.alloc (.cells xs t)).cell? ((⟨a, 0, none⟩ : Addr).add j) = some u := by
  subst h; exact cells_new w xs t

theorem four_u8 (a b c d : Int) : ∀ u ∈ ([Value.int .u8 a, .int .u8 b, .int .u8 c, .int .u8 d] : List Value), u.oneCell' = true := by
  intro u hu; simp at hu; rcases hu with rfl | rfl | rfl | rfl <;> rfl

theorem vs_key (d : Nat) : vs 0 d [34, 107, 34, 58] = some (0, d) := by
  rw [vs_out, if_pos rfl, vs_even, if_neg (by decide), if_neg (by decide), vs_even, if_neg (by decide), if_pos rfl, vs_plain (by unfold plain; decide), vs_nil]

theorem five_u8 (a b c d e : Int) : ∀ u ∈ ([Value.int .u8 a, .int .u8 b, .int .u8 c, .int .u8 d, .int .u8 e] : List Value), u.oneCell' = true := by
  intro u hu; simp at hu; rcases hu with rfl | rfl | rfl | rfl | rfl <;> rfl

theorem one_bool (x : Bool) : ∀ u ∈ ([Value.bool x] : List Value), u.oneCell' = true := by
  intro u hu; simp at hu; subst hu; rfl

theorem vs_open {c : UInt8} (hc : c = 123 ∨ c = 91) (d : Nat) : vs 0 d [c] = some (0, d + 1) := by
  rw [vs_out, if_neg (by rcases hc with rfl | rfl <;> decide), if_pos hc, vs_nil]

theorem vs_start (d : Nat) : vs 0 d [34] = some (1, d) := by rw [vs_out, if_pos rfl, vs_nil]
theorem vs_quote (d : Nat) : vs 1 d [34] = some (0, d) := by rw [vs_even, if_neg (by decide), if_pos rfl, vs_nil]

theorem vs_plains (l : List UInt8) (h : ∀ c ∈ l, plain c) (d : Nat) : vs 0 d l = some (0, d) := by
  induction l with
  | nil => exact vs_nil _ _
  | cons c l ih => rw [vs_plain (h c (List.mem_cons_self ..)), ih (fun x hx => h x (List.mem_cons_of_mem _ hx))]

theorem vs_exp (d : Nat) : vs 0 d [46, 53, 101, 43, 51] = some (0, d) := vs_plains _ (by unfold plain; decide) d

theorem digit_sign (x : UInt8) : ∃ dg : UInt8, (dg.toNat : Int) = 49 + (x.toNat : Int) / 16 % 9 ∧ plain dg := by
  have hx := x.toNat_lt
  refine ⟨UInt8.ofNat (49 + x.toNat / 16 % 9), by simp; omega, ?_⟩
  unfold plain
  refine ⟨?_, ?_, ?_, ?_, ?_⟩ <;>
  · intro e
    have := congrArg UInt8.toNat e
    simp at this
    omega

theorem own_cap {w : World} {B e size n cap g : Nat} {xs : List Value} (h : w.ownsRow B e size (.slice (some ⟨g, 0, none⟩) n cap) n xs) : n ≤ cap := by
  rcases h.2 with ⟨h', _⟩ | ⟨g', cap', cur, h', _, _, hn, _⟩
  · simp at h'
  · simp only [Value.slice.injEq] at h'
    omega

theorem fin_close {B o co no k ck g f cf mf o2 co2 : Nat} {w0 wr w2 : World} {O K : List UInt8} {F : List Bool} {x : UInt8} (h : St B w0 wr o co no k ck (g + 1) f cf mf O K F) (hO : Open 0 O (g + 1))
    (hx : x = 125 ∨ x = 93) (ha : Appended B o wr w2 O [x] o2 co2) : Fin B w0 w2 o2 co2 (no + 1) k ck g f cf mf := by
  refine ⟨O ++ [x], K.take g, F, (h.out ha).popK, ?_⟩
  by_cases hg : g = 0
  · subst hg
    obtain ⟨⟨M, rfl⟩, h2⟩ := hO
    exact .inr ⟨rfl, M, x, rfl, h2, hx⟩
  · refine .inl ⟨by omega, hO.append ?_⟩
    rw [vs_out, if_neg (by rcases hx with rfl | rfl <;> decide), if_neg (by rcases hx with rfl | rfl <;> decide), if_pos hx, if_neg (by omega), vs_nil]
    simp

theorem open_one : Open 0 [91] 1 := ⟨⟨[], rfl⟩, by rw [vs_out]; simp [vs_nil]⟩

theorem inv_start {B : Nat} {w w2 : World} (hB : B ≤ w2.heap.size) (hb : Below B w w2) (hg : B < w2.heap.size) (h : w2.ownsRow B 5 1 (.slice (some ⟨B, 0, none⟩) 1 64) 1 (vals [91])) :
    Inv B w ((w2.alloc (.cells #[.int .u8 91] 5)).alloc (.cells #[.bool true] 4)) B 64 1 w2.heap.size 1 1 (w2.heap.size + 1) 1 1 := by
  refine ⟨[91], [91], [true], ⟨⟨rfl, rfl, rfl⟩, (h.alloc _).alloc _, ?_, ?_, by omega, by omega, by omega, (hb.alloc hB _).alloc (by simp; omega) _, by simp; omega⟩, open_one⟩
  · exact (World.ownsRow_lit w2 #[.int .u8 91] 1 hB (by unfold maxLen; omega) rfl).alloc _
  · have := World.ownsRow_lit (base := B) (e := 4) (size := 1) (w2.alloc (.cells #[.int .u8 91] 5)) #[.bool true] 1 (by simp; omega) (by unfold maxLen; omega) rfl
    simpa [bvals] using this

set_option maxHeartbeats 4000000 in
set_option maxRecDepth 100000 in
theorem write_some (b off n c : Nat) (R : List UInt8) (hR : R.length = n) (hn : n ≤ 32768) (w : World)
    (HC : Hid (∀ j x, R[j]? = some x → w.cell? ⟨b, off + j, none⟩ = some (.int .u8 (x.toNat : Int)))) (hbw : b < w.heap.size) :
    Calls Try.prog 21 #[.slice (some ⟨b, off, none⟩) n c] w fun e w' => ∃ g no cap T, e = .returned (.slice (some ⟨g, 0, none⟩) no cap) ∧ T.length = no ∧ no ≤ 1048576 ∧ IsVal T ∧
      w'.ownsRow w.heap.size 5 1 (.slice (some ⟨g, 0, none⟩) no cap) no (vals T) ∧ Below w.heap.size w w' := by
  obtain ⟨i0, hi, hz0, hz1, hz2⟩ := info_parts Try.info5
  obtain ⟨i1, gi, gz0, gz1, gz2⟩ := info_parts Try.info4
  go_enter Try.func21, Try.ntmps21
  go_wp2_with (first
    | (at_make; refine wpList_make_own _ rfl _ _ 22 rfl w.heap.size 5 i0 (.int .u8 0) 1 Try.underlying22 hi hz0 hz1 .i64 .i64 _ 64 rfl rfl (by omega) (by rw [hz2]; omega) (by unfold maxLen; omega) (Nat.le_refl _) ?_; intro w1 hown1 hgrow1; have B1 : Below w.heap.size w w1 := (Below.refl _ _).grown hgrow1 (Nat.le_refl _) (fun k h => by cases h))
    | (at_builtin; refine wpList_append_fits _ rfl (.tmp 13) (.tmp 14) 22 rfl w.heap.size 5 i0 1 Try.underlying22 hi hz1 w.heap.size 0 64 _ rfl (hown1.alloc _) ⟨w1.heap.size, 0, none⟩ 1 1 [.int .u8 91] rfl rfl (cell_one_new _ _ _) (one_u8 _) (by omega) ?_; intro w2 hown2 hgrow2; have B2 := below_step B1 B1.size hgrow2 (Nat.le_refl _)))
  have hI := inv_start (w := w) B2.2 B2.1 (own_lt hown2).2 hown2
  clear hown1 hgrow1 hown2 hgrow2 B1 B2
  obtain ⟨W0, hW0⟩ : ∃ W0, (w2.alloc (Obj.cells #[Value.int IntKind.u8 91] 5)).alloc (Obj.cells #[Value.bool true] 4) = W0 := ⟨_, rfl⟩
  go_loopg [3, 4, 5, 6] n (fun g s3 s4 s5 s6 wx => ∃ idx o co no k ck m f cf : Nat, idx + g = n ∧ s3 = .slice (some ⟨o, 0, none⟩) no co ∧ s4 = .slice (some ⟨k, 0, none⟩) m ck ∧ s5 = .slice (some ⟨f, 0, none⟩) m cf ∧ s6 = .int .i64 idx ∧
      1 ≤ m ∧ m ≤ idx + 1 ∧ no ≤ 1 + 13 * idx ∧ Inv w.heap.size w wx o co no k ck m f cf m)
  case atStart => exact ⟨0, w.heap.size, 64, 1, w2.heap.size, 1, 1, w2.heap.size + 1, 1, by omega, rfl, rfl, rfl, rfl, by omega, by omega, by omega, hI⟩
  case round =>
    obtain ⟨idx, o, co, no, k, ck, m, f, cf, hg, rfl, rfl, rfl, rfl, hm1, hm2, hno, hI2⟩ := hrel
    clear hI hW0
    cases gk with
    | zero =>
      have hidx : ¬ (idx : Int) < (n : Int) := by omega
      go_wp2_with fail
      have hF : Fin w.heap.size w wr o co no k ck m f cf m := by
        obtain ⟨O, K, F, h1, h2⟩ := hI2
        exact ⟨O, K, F, h1, .inl ⟨hm1, h2⟩⟩
      clear hI2
      go_loopg [3, 4, 11] m (fun g s3 s4 _ wx => ∃ o co no k ck : Nat, s3 = .slice (some ⟨o, 0, none⟩) no co ∧ s4 = .slice (some ⟨k, 0, none⟩) g ck ∧ g ≤ 32769 ∧ no + g ≤ 1 + 13 * n + (n + 1) ∧ Fin w.heap.size w wx o co no k ck g f cf m)
      case atStart => exact ⟨o, co, no, k, ck, rfl, rfl, by omega, by omega, hF⟩
      case round =>
        obtain ⟨o1, co1, no1, k1, ck1, rfl, rfl, hg2, hno2, hF2⟩ := hrel
        clear hF
        cases gk with
        | zero =>
          go_wp2
          go_ret
          obtain ⟨O, K, F, h1, h2⟩ := hF2
          have hv : IsVal O := by
            rcases h2 with ⟨h, _⟩ | ⟨_, h⟩
            · omega
            · exact h
          exact ⟨o1, no1, co1, O, rfl, h1.1.1, by omega, hv, h1.rowO, h1.bel⟩
        | succ g =>
          obtain ⟨O, K, F, h1, h2⟩ := hF2
          have hO : Open 0 O (g + 1) := by
            rcases h2 with ⟨_, h⟩ | ⟨h, _⟩
            · exact h
            · omega
          obtain rfl : O.length = no1 := h1.1.1
          obtain ⟨x, hx⟩ := h1.cellK (j := g) (by omega)
          have hrow := h1.rowO
          have hbase := h1.base
          have hcap := own_cap h1.rowK
          have hcap2 : (g : Int) ≤ (ck1 : Int) := by omega
          have HO : Hid (Open 0 O (g + 1)) := hO
          have HST : Hid (St w.heap.size w wr o1 co1 O.length k1 ck1 (g + 1) f cf m O K F) := h1
          clear h1 h2 hO
          go_wp2_with (go_at_call 33; refine (close_any w.heap.size o1 co1 O x _ (by omega) hbase hrow).mono ?_; rintro e w3 ⟨o2, co2, y, hy, rfl, ha⟩)
          have hfin := fin_close HST.out HO.out hy ha
          go_roundg g
          case measure => omega
          case rel => exact ⟨o2, co2, O.length + 1, k1, ck1, rfl, rfl, by omega, by omega, hfin⟩
    | succ g =>
      obtain ⟨m, rfl⟩ : ∃ m', m = m' + 1 := ⟨m - 1, by omega⟩
      obtain ⟨O, K, F, hS, hO⟩ := hI2
      obtain ⟨x, hx⟩ : ∃ x, R[idx]? = some x := ⟨R[idx]'(by omega), List.getElem?_eq_getElem _⟩
      have hcx : wr.cell? ⟨b, off + idx, none⟩ = some (.int .u8 (x.toNat : Int)) := (hS.bel.cell hbw).trans (HC.out idx x hx)
      have hxb : (x.toNat : Int) < 256 := by have := x.toNat_lt; omega
      have hlt : (idx : Int) < (n : Int) := by omega
      obtain rfl : O.length = no := hS.1.1
      have HO : Hid (Open 0 O (m + 1)) := hO
      have HST : Hid (St w.heap.size w wr o co O.length k ck (m + 1) f cf (m + 1) O K F) := hS
      obtain ⟨y, hy⟩ := hS.cellK (j := m) (by omega)
      obtain ⟨⟨fb, hfb⟩, hfz⟩ := hS.cellF (j := m) (by omega)
      have hbase := hS.base
      have hcapK := own_cap hS.rowK
      have hcapF := own_cap hS.rowF
      have hrow := hS.rowO
      clear hO hS hx
      by_cases h2 : (x.toNat : Int) % 6 = 2
      · clear hfb hfz
        by_cases hm : m = 0
        · subst hm
          go_wp2_with fail
          go_roundg g
          case measure => omega
          case rel => exact ⟨idx + 1, o, co, O.length, k, ck, 1, f, cf, by omega, rfl, rfl, rfl, by go_num, by omega, by omega, by omega, O, K, F, HST.out, HO.out⟩
        · have hm3 : (0 : Int) < (m : Int) := by omega
          have hk2 : (m : Int) ≤ (ck : Int) := by omega
          have hf2 : (m : Int) ≤ (cf : Int) := by omega
          go_wp2_with (go_at_call 33; refine (close_any w.heap.size o co O y _ (by omega) hbase hrow).mono ?_; rintro e w3 ⟨o2, co2, z, hz, rfl, ha⟩)
          have hI3 := inv_close HST.out HO.out (by omega) hz ha
          go_roundg g
          case measure => omega
          case rel => exact ⟨idx + 1, o2, co2, O.length + 1, k, ck, m, f, cf, by omega, rfl, rfl, rfl, by go_num, by omega, by omega, by omega, hI3⟩
      · have h2b : ((x.toNat : Int) % 6 == 2) = false := by simpa using h2
        go_upto_if 53 with fail
        go_cut [3] from 18 to 156 (fun s3 wx => ∃ o1 co1 no1 : Nat, s3 = .slice (some ⟨o1, 0, none⟩) no1 co1 ∧ no1 ≤ O.length + 1 ∧ Inv w.heap.size w wx o1 co1 no1 k ck (m + 1) f cf (m + 1))
        case first =>
          cases fb
          · go_wp2_with (at_builtin; refine wpList_append_lies _ rfl (.tmp 54) (.tmp 55) 22 rfl w.heap.size 5 i0 (.int .u8 0) 1 1 Try.underlying22 hi hz0 hz1 hz2 rfl (by decide) (.slice (some ⟨o, 0, none⟩) O.length co) (O.length) _ rfl (hrow.alloc _) ⟨wr.heap.size, 0, none⟩ 1 1 [.int .u8 44] rfl rfl (cell_one_new _ _ _) (one_u8 _) (by omega) (by unfold maxLen; omega) (by omega) (by simp; omega) _ rfl ?_; intro o1 co1 w3 hown3 hgrow3 hat3 hlt3)
            go_meet
            case rel => exact ⟨o1, co1, O.length + 1, rfl, by omega, O ++ [44], K, F, HST.out.outs (N := [44]) hown3 hgrow3 hat3 hlt3, HO.out.append (by rw [vs_plain (by unfold plain; decide), vs_nil])⟩
          · go_wp2_with fail
            go_meet
            case rel => exact ⟨o, co, O.length, rfl, by omega, O, K, F, HST.out, HO.out⟩
        case rest =>
          clear HST HO hy hfb hfz hrow hbase hcx
          obtain ⟨o1, co1, no1, rfl, hle1, O1, K1, F1, hS1, hO1⟩ := hcut
          obtain rfl : O1.length = no1 := hS1.1.1
          obtain ⟨⟨fb1, hfb1⟩, hfz1⟩ := hS1.cellF (j := m) (by omega)
          have hS2 := hS1.store m false
          obtain ⟨y1, hy1⟩ := hS2.cellK (j := m) (by omega)
          have hrow1 := hS2.rowO
          have hbase1 := hS1.base
          have HO1 : Hid (Open 0 O1 (m + 1)) := hO1
          have HST1 : Hid (St w.heap.size w (wc.setCell ⟨f, m, none⟩ (.bool false)) o1 co1 O1.length k ck (m + 1) f cf (m + 1) O1 K1 (F1.set m false)) := hS2
          clear hS1 hS2 hO1
          go_upto_if 64 with fail
          go_cut [3] from 18 to 156 (fun s3 wx => ∃ o2 co2 no2 : Nat, s3 = .slice (some ⟨o2, 0, none⟩) no2 co2 ∧ no2 ≤ O.length + 5 ∧ Inv w.heap.size w wx o2 co2 no2 k ck (m + 1) f cf (m + 1))
          case first =>
            cases h123 : ((y1.toNat : Int) == 123)
            · go_wp2_with fail
              go_meet
              case rel => exact ⟨o1, co1, O1.length, rfl, by omega, O1, K1, _, HST1.out, HO1.out⟩
            · go_wp2_with (at_builtin; refine wpList_append_lies _ rfl (.tmp 65) (.tmp 66) 22 rfl w.heap.size 5 i0 (.int .u8 0) 1 1 Try.underlying22 hi hz0 hz1 hz2 rfl (by decide) (.slice (some ⟨o1, 0, none⟩) O1.length co1) (O1.length) _ rfl (hrow1.alloc _) ⟨wc.heap.size, 0, none⟩ 4 4 [.int .u8 34, .int .u8 107, .int .u8 34, .int .u8 58] rfl rfl (cells_new2 _ #[.int .u8 34, .int .u8 107, .int .u8 34, .int .u8 58] _ _ (by simp)) (four_u8 _ _ _ _) (by omega) (by unfold maxLen; omega) (by omega) (by simp; omega) _ rfl ?_; intro o2 co2 w4 hown4 hgrow4 hat4 hlt4)
              go_meet
              case rel => exact ⟨o2, co2, O1.length + 4, rfl, by omega, O1 ++ [34, 107, 34, 58], K1, _, HST1.out.outs (N := [34, 107, 34, 58]) hown4 hgrow4 hat4 hlt4, HO1.out.append (vs_key _)⟩
          case rest =>
            clear HST1 HO1 hy1 hfb1 hfz1 hrow1 hbase1
            obtain ⟨o2, co2, no2, rfl, hle2, O2, K2, F2, hS, hO⟩ := hcut
            obtain rfl : O2.length = no2 := hS.1.1
            have hrow := hS.rowO
            have hbase := hS.base
            have HO : Hid (Open 0 O2 (m + 1)) := hO
            have HST : Hid (St w.heap.size w wc o2 co2 O2.length k ck (m + 1) f cf (m + 1) O2 K2 F2) := hS
            clear hS hO
            have h6 : (x.toNat : Int) % 6 = 0 ∨ (x.toNat : Int) % 6 = 1 ∨ (x.toNat : Int) % 6 = 3 ∨ (x.toNat : Int) % 6 = 4 ∨ (x.toNat : Int) % 6 = 5 := by omega
            rcases h6 with h6 | h6 | h6 | h6 | h6
            · go_wp2_with (first
                | (at_builtin; refine wpList_append_lies _ rfl (.tmp 87) (.tmp 88) 22 rfl w.heap.size 5 i0 (.int .u8 0) 1 1 Try.underlying22 hi hz0 hz1 hz2 rfl (by decide) (.slice (some ⟨o2, 0, none⟩) O2.length co2) (O2.length) _ rfl (hrow.alloc _) ⟨wc.heap.size, 0, none⟩ 1 1 [.int .u8 123] rfl rfl (cell_one_new _ _ _) (one_u8 _) (by omega) (by unfold maxLen; omega) (by omega) (by simp; omega) _ rfl ?_; intro o5 co5 w5 hown5 hgrow5 hat5 hlt5; have hS5 := HST.out.outs (N := [123]) hown5 hgrow5 hat5 hlt5; have hb5 := hS5.base)
                | (at_builtin; refine wpList_append_lies _ rfl (.tmp 90) (.tmp 91) 22 rfl w.heap.size 5 i0 (.int .u8 0) 1 1 Try.underlying22 hi hz0 hz1 hz2 rfl (by decide) (.slice (some ⟨k, 0, none⟩) (m + 1) ck) ((m + 1)) _ rfl (hS5.rowK.alloc _) ⟨w5.heap.size, 0, none⟩ 1 1 [.int .u8 123] rfl rfl (cell_one_new _ _ _) (one_u8 _) (by omega) (by unfold maxLen; omega) (by omega) (by simp; omega) _ rfl ?_; intro o6 co6 w6 hown6 hgrow6 hat6 hlt6; have hS6 := hS5.pushK (c := 123) hown6 hgrow6 hat6; have hb6 := hS6.base)
                | (at_builtin; refine wpList_append_lies _ rfl (.tmp 93) (.tmp 94) 41 rfl w.heap.size 4 i1 (.bool false) 1 1 Try.underlying41 gi gz0 gz1 gz2 rfl (by decide) (.slice (some ⟨f, 0, none⟩) (m + 1) cf) ((m + 1)) _ rfl (hS6.rowF.alloc _) ⟨w6.heap.size, 0, none⟩ 1 1 [.bool true] rfl rfl (cell_one_new _ _ _) (one_bool _) (by omega) (by unfold maxLen; omega) (by omega) (by simp; omega) _ rfl ?_; intro o7 co7 w7 hown7 hgrow7 hat7 hlt7; have hS7 := hS6.pushF (c := true) hown7 hgrow7 hat7))
              go_roundg g
              case measure => omega
              case rel => exact ⟨idx + 1, o5, co5, O2.length + 1, o6, co6, m + 1 + 1, o7, co7, by omega, rfl, rfl, rfl, by go_num, by omega, by omega, by omega, _, _, _, hS7, HO.out.append (vs_open (by decide) _)⟩
            · go_wp2_with (first
                | (at_builtin; refine wpList_append_lies _ rfl (.tmp 98) (.tmp 99) 22 rfl w.heap.size 5 i0 (.int .u8 0) 1 1 Try.underlying22 hi hz0 hz1 hz2 rfl (by decide) (.slice (some ⟨o2, 0, none⟩) O2.length co2) (O2.length) _ rfl (hrow.alloc _) ⟨wc.heap.size, 0, none⟩ 1 1 [.int .u8 91] rfl rfl (cell_one_new _ _ _) (one_u8 _) (by omega) (by unfold maxLen; omega) (by omega) (by simp; omega) _ rfl ?_; intro o5 co5 w5 hown5 hgrow5 hat5 hlt5; have hS5 := HST.out.outs (N := [91]) hown5 hgrow5 hat5 hlt5; have hb5 := hS5.base)
                | (at_builtin; refine wpList_append_lies _ rfl (.tmp 101) (.tmp 102) 22 rfl w.heap.size 5 i0 (.int .u8 0) 1 1 Try.underlying22 hi hz0 hz1 hz2 rfl (by decide) (.slice (some ⟨k, 0, none⟩) (m + 1) ck) ((m + 1)) _ rfl (hS5.rowK.alloc _) ⟨w5.heap.size, 0, none⟩ 1 1 [.int .u8 91] rfl rfl (cell_one_new _ _ _) (one_u8 _) (by omega) (by unfold maxLen; omega) (by omega) (by simp; omega) _ rfl ?_; intro o6 co6 w6 hown6 hgrow6 hat6 hlt6; have hS6 := hS5.pushK (c := 91) hown6 hgrow6 hat6; have hb6 := hS6.base)
                | (at_builtin; refine wpList_append_lies _ rfl (.tmp 104) (.tmp 105) 41 rfl w.heap.size 4 i1 (.bool false) 1 1 Try.underlying41 gi gz0 gz1 gz2 rfl (by decide) (.slice (some ⟨f, 0, none⟩) (m + 1) cf) ((m + 1)) _ rfl (hS6.rowF.alloc _) ⟨w6.heap.size, 0, none⟩ 1 1 [.bool true] rfl rfl (cell_one_new _ _ _) (one_bool _) (by omega) (by unfold maxLen; omega) (by omega) (by simp; omega) _ rfl ?_; intro o7 co7 w7 hown7 hgrow7 hat7 hlt7; have hS7 := hS6.pushF (c := true) hown7 hgrow7 hat7))
              go_roundg g
              case measure => omega
              case rel => exact ⟨idx + 1, o5, co5, O2.length + 1, o6, co6, m + 1 + 1, o7, co7, by omega, rfl, rfl, rfl, by go_num, by omega, by omega, by omega, _, _, _, hS7, HO.out.append (vs_open (by decide) _)⟩
            · go_wp2_with (at_builtin; refine wpList_append_lies _ rfl (.tmp 112) (.tmp 113) 22 rfl w.heap.size 5 i0 (.int .u8 0) 1 1 Try.underlying22 hi hz0 hz1 hz2 rfl (by decide) (.slice (some ⟨o2, 0, none⟩) O2.length co2) (O2.length) _ rfl (hrow.alloc _) ⟨wc.heap.size, 0, none⟩ 1 1 [.int .u8 34] rfl rfl (cell_one_new _ _ _) (one_u8 _) (by omega) (by unfold maxLen; omega) (by omega) (by simp; omega) _ rfl ?_; intro o5 co5 w5 hown5 hgrow5 hat5 hlt5; have hS5 := HST.out.outs (N := [34]) hown5 hgrow5 hat5 hlt5)
              have hJ : ∃ O K F, St w.heap.size w w5 o5 co5 (O2.length + 1) k ck (m + 1) f cf (m + 1) O K F ∧ Open 1 O (m + 1) := ⟨_, _, _, hS5, HO.out.append (vs_start _)⟩
              clear hown5 hgrow5 hat5 hlt5 hS5 HST HO hrow hbase
              go_loopg [3, 6, 10] (n - (idx + 1)) (fun g s3 s6 s10 wx => ∃ i o co no nn : Nat, i + g = n ∧ idx + 1 ≤ i ∧ s3 = .slice (some ⟨o, 0, none⟩) no co ∧ s6 = .int .i64 i ∧ s10 = .int .i64 nn ∧ nn ≤ 255 ∧ no + 6 * (idx + 1) ≤ 7 + 13 * idx + 6 * i ∧
                  ∃ O K F, St w.heap.size w wx o co no k ck (m + 1) f cf (m + 1) O K F ∧ Open 1 O (m + 1))
              case atStart => exact ⟨idx + 1, o5, co5, O2.length + 1, x.toNat / 8, by omega, by omega, rfl, by go_num, by go_num, by omega, by omega, hJ⟩
              case round =>
                obtain ⟨i, o6, co6, no6, nn, hi6, hii, rfl, rfl, rfl, hnn, hno6, O6, K6, F6, hS6, hO6⟩ := hrel
                clear hJ
                obtain rfl : O6.length = no6 := hS6.1.1
                have hrow6 := hS6.rowO
                have hbase6 := hS6.base
                have hbel6 := hS6.bel
                have HO6 : Hid (Open 1 O6 (m + 1)) := hO6
                have HST6 : Hid (St w.heap.size w wr o6 co6 O6.length k ck (m + 1) f cf (m + 1) O6 K6 F6) := hS6
                clear hS6 hO6
                by_cases hnn0 : nn = 0
                · subst hnn0
                  clear hbel6
                  go_wp2_with (at_builtin; refine wpList_append_lies _ rfl (.tmp 133) (.tmp 134) 22 rfl w.heap.size 5 i0 (.int .u8 0) 1 1 Try.underlying22 hi hz0 hz1 hz2 rfl (by decide) (.slice (some ⟨o6, 0, none⟩) O6.length co6) (O6.length) _ rfl (hrow6.alloc _) ⟨wr.heap.size, 0, none⟩ 1 1 [.int .u8 34] rfl rfl (cell_one_new _ _ _) (one_u8 _) (by omega) (by unfold maxLen; omega) (by omega) (by simp; omega) _ rfl ?_; intro o8 co8 w8 hown8 hgrow8 hat8 hlt8; have hS8 := HST6.out.outs (N := [34]) hown8 hgrow8 hat8 hlt8)
                  go_roundg (n - i)
                  case measure => omega
                  case rel => exact ⟨i, o8, co8, O6.length + 1, k, ck, m + 1, f, cf, by omega, rfl, rfl, rfl, rfl, by omega, by omega, by omega, _, _, _, hS8, HO6.out.append (vs_quote _)⟩
                · have hnp : (0 : Int) < (nn : Int) := by omega
                  by_cases hin : i < n
                  · obtain ⟨z, hz⟩ : ∃ z, R[i]? = some z := ⟨R[i]'(by omega), List.getElem?_eq_getElem _⟩
                    have hcz : wr.cell? ⟨b, off + i, none⟩ = some (.int .u8 (z.toNat : Int)) := (hbel6.cell hbw).trans (HC.out i z hz)
                    have hin2 : (i : Int) < (n : Int) := by omega
                    clear hbel6 hz
                    go_wp2_with (go_at_call 34; refine (writeByte_any w.heap.size o6 co6 O6 z _ (by omega) hbase6 hrow6).mono ?_; rintro e w9 ⟨o9, co9, N, rfl, hN6, hNv, ha⟩)
                    go_roundg (n - (i + 1))
                    case measure => omega
                    case rel => exact ⟨i + 1, o9, co9, O6.length + N.length, nn - 1, by omega, by omega, rfl, by go_num, by go_num, by omega, by omega, _, _, _, HST6.out.out ha, HO6.out.append (hNv _)⟩
                  · have hin2 : ¬ (i : Int) < (n : Int) := by omega
                    clear hbel6
                    go_wp2_with (at_builtin; refine wpList_append_lies _ rfl (.tmp 133) (.tmp 134) 22 rfl w.heap.size 5 i0 (.int .u8 0) 1 1 Try.underlying22 hi hz0 hz1 hz2 rfl (by decide) (.slice (some ⟨o6, 0, none⟩) O6.length co6) (O6.length) _ rfl (hrow6.alloc _) ⟨wr.heap.size, 0, none⟩ 1 1 [.int .u8 34] rfl rfl (cell_one_new _ _ _) (one_u8 _) (by omega) (by unfold maxLen; omega) (by omega) (by simp; omega) _ rfl ?_; intro o8 co8 w8 hown8 hgrow8 hat8 hlt8; have hS8 := HST6.out.outs (N := [34]) hown8 hgrow8 hat8 hlt8)
                    go_roundg (n - i)
                    case measure => omega
                    case rel => exact ⟨i, o8, co8, O6.length + 1, k, ck, m + 1, f, cf, by omega, rfl, rfl, rfl, rfl, by omega, by omega, by omega, _, _, _, hS8, HO6.out.append (vs_quote _)⟩
            · go_upto_if 140 with fail
              clear h6
              go_cut [3] from 18 to 156 (fun s3 wx => ∃ o5 co5 no5 : Nat, s3 = .slice (some ⟨o5, 0, none⟩) no5 co5 ∧ no5 ≤ O2.length + 1 ∧ Inv w.heap.size w wx o5 co5 no5 k ck (m + 1) f cf (m + 1))
              case first =>
                go_wp2_with (at_builtin; refine wpList_append_lies _ rfl (.tmp 141) (.tmp 142) 22 rfl w.heap.size 5 i0 (.int .u8 0) 1 1 Try.underlying22 hi hz0 hz1 hz2 rfl (by decide) (.slice (some ⟨o2, 0, none⟩) O2.length co2) (O2.length) _ rfl (hrow.alloc _) ⟨wc.heap.size, 0, none⟩ 1 1 [.int .u8 45] rfl rfl (cell_one_new _ _ _) (one_u8 _) (by omega) (by unfold maxLen; omega) (by omega) (by simp; omega) _ rfl ?_; intro o5 co5 w5 hown5 hgrow5 hat5 hlt5; have hS5 := HST.out.outs (N := [45]) hown5 hgrow5 hat5 hlt5)
                · go_meet
                  case rel => exact ⟨o5, co5, O2.length + 1, rfl, by omega, _, _, _, hS5, HO.out.append (by rw [vs_plain (by unfold plain; decide), vs_nil])⟩
                · go_meet
                  case rel => exact ⟨o2, co2, O2.length, rfl, by omega, _, _, _, HST.out, HO.out⟩
              case rest =>
                clear HST HO hrow hbase
                obtain ⟨o5, co5, no5, rfl, hle5, O5, K5, F5, hS5, hO5⟩ := hcut
                obtain rfl : O5.length = no5 := hS5.1.1
                have hrow5 := hS5.rowO
                have hbase5 := hS5.base
                have HO5 : Hid (Open 0 O5 (m + 1)) := hO5
                have HST5 : Hid (St w.heap.size w wc o5 co5 O5.length k ck (m + 1) f cf (m + 1) O5 K5 F5) := hS5
                clear hS5 hO5
                obtain ⟨dg, hdg, hdp⟩ := digit_sign x
                have HD : Hid ((dg.toNat : Int) = 49 + (x.toNat : Int) / 16 % 9) := hdg
                have HDP : Hid (plain dg) := hdp
                clear hdg hdp
                go_wp2_with (first
                  | (at_builtin; refine wpList_append_lies _ rfl (.tmp 144) (.tmp 149) 22 rfl w.heap.size 5 i0 (.int .u8 0) 1 1 Try.underlying22 hi hz0 hz1 hz2 rfl (by decide) (.slice (some ⟨o5, 0, none⟩) O5.length co5) (O5.length) _ rfl (hrow5.alloc _) ⟨wc.heap.size, 0, none⟩ 1 1 [.int .u8 (49 + (x.toNat : Int) / 16 % 9)] rfl rfl (cell_one_new _ _ _) (one_u8 _) (by omega) (by unfold maxLen; omega) (by omega) (by simp; omega) _ rfl ?_; intro o6 co6 w6 hown6 hgrow6 hat6 hlt6; have hS6 := HST5.out.outs (N := [dg]) (by show World.ownsRow _ _ _ _ _ _ (vals O5 ++ [Value.int .u8 (dg.toNat : Int)]); rw [HD.out]; exact hown6) hgrow6 hat6 hlt6; have hb6 := hS6.base)
                  | (at_builtin; refine wpList_append_lies _ rfl (.tmp 154) (.tmp 155) 22 rfl w.heap.size 5 i0 (.int .u8 0) 1 1 Try.underlying22 hi hz0 hz1 hz2 rfl (by decide) (.slice (some ⟨o6, 0, none⟩) (O5.length + 1) co6) ((O5.length + 1)) _ rfl (hS6.rowO.alloc _) ⟨w6.heap.size, 0, none⟩ 5 5 [.int .u8 46, .int .u8 53, .int .u8 101, .int .u8 43, .int .u8 51] rfl rfl (cells_new _ #[.int .u8 46, .int .u8 53, .int .u8 101, .int .u8 43, .int .u8 51] _) (five_u8 _ _ _ _ _) (by omega) (by unfold maxLen; omega) (by omega) (by simp; omega) _ rfl ?_; intro o7 co7 w7 hown7 hgrow7 hat7 hlt7; have hS7 := hS6.outs (N := [46, 53, 101, 43, 51]) hown7 hgrow7 hat7 hlt7))
                · go_roundg g
                  case measure => omega
                  case rel => exact ⟨idx + 1, o7, co7, O5.length + 1 + 5, k, ck, m + 1, f, cf, by omega, rfl, rfl, rfl, by go_num, by omega, by omega, by omega, _, _, _, hS7, (HO5.out.append (by rw [vs_plain HDP.out, vs_nil])).append (vs_exp _)⟩
                · go_roundg g
                  case measure => omega
                  case rel => exact ⟨idx + 1, o6, co6, O5.length + 1, k, ck, m + 1, f, cf, by omega, rfl, rfl, rfl, by go_num, by omega, by omega, by omega, _, _, _, hS6, HO5.out.append (by rw [vs_plain HDP.out, vs_nil])⟩
            · have h3 : (x.toNat : Int) / 8 % 3 = 0 ∨ (x.toNat : Int) / 8 % 3 = 1 ∨ (x.toNat : Int) / 8 % 3 = 2 := by omega
              rcases h3 with h3 | h3 | h3
              · go_wp2_with (at_builtin; refine wpList_append_lies _ rfl (.tmp 77) (.tmp 78) 22 rfl w.heap.size 5 i0 (.int .u8 0) 1 1 Try.underlying22 hi hz0 hz1 hz2 rfl (by decide) (.slice (some ⟨o2, 0, none⟩) O2.length co2) (O2.length) _ rfl (hrow.alloc _) ⟨wc.heap.size, 0, none⟩ 4 4 [.int .u8 116, .int .u8 114, .int .u8 117, .int .u8 101] rfl rfl (cells_new _ #[.int .u8 116, .int .u8 114, .int .u8 117, .int .u8 101] _) (four_u8 _ _ _ _) (by omega) (by unfold maxLen; omega) (by omega) (by simp; omega) _ rfl ?_; intro o5 co5 w5 hown5 hgrow5 hat5 hlt5; have hS5 := HST.out.outs (N := [116, 114, 117, 101]) hown5 hgrow5 hat5 hlt5)
                go_roundg g
                case measure => omega
                case rel => exact ⟨idx + 1, o5, co5, O2.length + 4, k, ck, m + 1, f, cf, by omega, rfl, rfl, rfl, by go_num, by omega, by omega, by omega, _, _, _, hS5, HO.out.append (vs_plains [116, 114, 117, 101] (by unfold plain; decide) _)⟩
              · go_wp2_with (at_builtin; refine wpList_append_lies _ rfl (.tmp 82) (.tmp 83) 22 rfl w.heap.size 5 i0 (.int .u8 0) 1 1 Try.underlying22 hi hz0 hz1 hz2 rfl (by decide) (.slice (some ⟨o2, 0, none⟩) O2.length co2) (O2.length) _ rfl (hrow.alloc _) ⟨wc.heap.size, 0, none⟩ 5 5 [.int .u8 102, .int .u8 97, .int .u8 108, .int .u8 115, .int .u8 101] rfl rfl (cells_new _ #[.int .u8 102, .int .u8 97, .int .u8 108, .int .u8 115, .int .u8 101] _) (five_u8 _ _ _ _ _) (by omega) (by unfold maxLen; omega) (by omega) (by simp; omega) _ rfl ?_; intro o5 co5 w5 hown5 hgrow5 hat5 hlt5; have hS5 := HST.out.outs (N := [102, 97, 108, 115, 101]) hown5 hgrow5 hat5 hlt5)
                go_roundg g
                case measure => omega
                case rel => exact ⟨idx + 1, o5, co5, O2.length + 5, k, ck, m + 1, f, cf, by omega, rfl, rfl, rfl, by go_num, by omega, by omega, by omega, _, _, _, hS5, HO.out.append (vs_plains [102, 97, 108, 115, 101] (by unfold plain; decide) _)⟩
              · go_wp2_with (at_builtin; refine wpList_append_lies _ rfl (.tmp 72) (.tmp 73) 22 rfl w.heap.size 5 i0 (.int .u8 0) 1 1 Try.underlying22 hi hz0 hz1 hz2 rfl (by decide) (.slice (some ⟨o2, 0, none⟩) O2.length co2) (O2.length) _ rfl (hrow.alloc _) ⟨wc.heap.size, 0, none⟩ 4 4 [.int .u8 110, .int .u8 117, .int .u8 108, .int .u8 108] rfl rfl (cells_new _ #[.int .u8 110, .int .u8 117, .int .u8 108, .int .u8 108] _) (four_u8 _ _ _ _) (by omega) (by unfold maxLen; omega) (by omega) (by simp; omega) _ rfl ?_; intro o5 co5 w5 hown5 hgrow5 hat5 hlt5; have hS5 := HST.out.outs (N := [110, 117, 108, 108]) hown5 hgrow5 hat5 hlt5)
                go_roundg g
                case measure => omega
                case rel => exact ⟨idx + 1, o5, co5, O2.length + 4, k, ck, m + 1, f, cf, by omega, rfl, rfl, rfl, by go_num, by omega, by omega, by omega, _, _, _, hS5, HO.out.append (vs_plains [110, 117, 108, 108] (by unfold plain; decide) _)⟩

end Go.Proofs.Qxb6000374a
