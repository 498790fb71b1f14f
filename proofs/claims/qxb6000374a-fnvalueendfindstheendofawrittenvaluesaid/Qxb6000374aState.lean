/-
  THE STATE of zzWriteValue's loops (seat b6000374a): three rows of the call's own.
-/
import Derived.Test.Qxb6000374aByte
import Derived.WalkSmall
namespace Go.Proofs.Qxb6000374a
open Go.RowKit

theorem Try.info4 : (Try.prog.info? 4).map (fun i => (i.zero, i.size, i.bytes)) = some (some (.bool false), 1, 1) := by kernel_rfl

/-- The cells of a list of bools. -/
def bvals (F : List Bool) : List Value := F.map Value.bool

theorem bvals_length (F : List Bool) : (bvals F).length = F.length := by simp [bvals]
theorem bvals_append (a b : List Bool) : bvals (a ++ b) = bvals a ++ bvals b := by simp [bvals]

/-- The three rows: out (block o) holds O, kinds (block k) holds K, firsts (block f) holds F; they lie apart; nothing below B has turned since w0. -/
def St (B : Nat) (w0 wr : World) (o co no k ck mk f cf mf : Nat) (O K : List UInt8) (F : List Bool) : Prop :=
  (O.length = no ∧ K.length = mk ∧ F.length = mf) ∧
  wr.ownsRow B 5 1 (.slice (some ⟨o, 0, none⟩) no co) no (vals O) ∧
  wr.ownsRow B 5 1 (.slice (some ⟨k, 0, none⟩) mk ck) mk (vals K) ∧
  wr.ownsRow B 4 1 (.slice (some ⟨f, 0, none⟩) mf cf) mf (bvals F) ∧
  o ≠ k ∧ o ≠ f ∧ k ≠ f ∧ Below B w0 wr ∧ B ≤ wr.heap.size

/-- What has been written: it opens with a bracket; m brackets are open; the scan's state. -/
def Open (st : Nat) (O : List UInt8) (m : Nat) : Prop := (∃ M, O = 91 :: M) ∧ vs 0 0 O = some (st, m)

theorem own_lt {w : World} {B e size n cap g : Nat} {xs : List Value} (h : w.ownsRow B e size (.slice (some ⟨g, 0, none⟩) n cap) n xs) : B ≤ g ∧ g < w.heap.size := h.lt g rfl

theorem Open.append {st st' m m' : Nat} {O N : List UInt8} (h : Open st O m) (hN : vs st m N = some (st', m')) : Open st' (O ++ N) m' := by
  obtain ⟨⟨M, rfl⟩, h2⟩ := h
  refine ⟨⟨M ++ N, rfl⟩, ?_⟩
  rw [vs_append, h2]; exact hN

section
variable {B o co no k ck mk f cf mf : Nat} {w0 wr w2 : World} {O K : List UInt8} {F : List Bool}

theorem St.rowO (h : St B w0 wr o co no k ck mk f cf mf O K F) : wr.ownsRow B 5 1 (.slice (some ⟨o, 0, none⟩) no co) no (vals O) := h.2.1
theorem St.rowK (h : St B w0 wr o co no k ck mk f cf mf O K F) : wr.ownsRow B 5 1 (.slice (some ⟨k, 0, none⟩) mk ck) mk (vals K) := h.2.2.1
theorem St.rowF (h : St B w0 wr o co no k ck mk f cf mf O K F) : wr.ownsRow B 4 1 (.slice (some ⟨f, 0, none⟩) mf cf) mf (bvals F) := h.2.2.2.1
theorem St.bel (h : St B w0 wr o co no k ck mk f cf mf O K F) : Below B w0 wr := h.2.2.2.2.2.2.2.1
theorem St.base (h : St B w0 wr o co no k ck mk f cf mf O K F) : B ≤ wr.heap.size := h.2.2.2.2.2.2.2.2

/-- An append to out. -/
theorem St.out {g cap : Nat} {N : List UInt8} (h : St B w0 wr o co no k ck mk f cf mf O K F) (ha : Appended B o wr w2 O N g cap) :
    St B w0 w2 g cap (no + N.length) k ck mk f cf mf (O ++ N) K F := by
  obtain ⟨⟨l1, l2, l3⟩, h1, h2, h3, n1, n2, n3, hb, hB⟩ := h
  obtain ⟨a1, a2, a3, a4⟩ := ha
  have k1 := own_lt h2
  have k2 := own_lt h3
  have k3 := own_lt h1
  rw [l1] at a1
  exact ⟨⟨by simp [l1], l2, l3⟩, a1, h2.kept a2 (.inr (by simp [Value.ownBlock]; omega)), h3.kept a2 (.inr (by simp [Value.ownBlock]; omega)), by omega, by omega, n3, hb.grown a2 hB (fun k h => by simp at h; omega), Nat.le_trans hB a2.size⟩

/-- An append to out, as the law leaves it behind a block that was just laid. -/
theorem St.outs {g cap : Nat} {x : Obj} {N : List UInt8} (h : St B w0 wr o co no k ck mk f cf mf O K F)
    (hown : w2.ownsRow B 5 1 (.slice (some ⟨g, 0, none⟩) (no + N.length) cap) (no + N.length) (vals O ++ vals N))
    (hgrow : (wr.alloc x).grownBy w2 (Value.ownBlock (.slice (some ⟨o, 0, none⟩) no co))) (hat : Value.ownBlock (.slice (some ⟨o, 0, none⟩) no co) = some g ∨ g = (wr.alloc x).heap.size) (hlt : g < w2.heap.size) :
    St B w0 w2 g cap (no + N.length) k ck mk f cf mf (O ++ N) K F := by
  obtain rfl : O.length = no := h.1.1
  exact h.out (Appended.mk' hown hgrow hat hlt)

/-- An append to kinds. -/
theorem St.pushK {g cap : Nat} {x : Obj} {c : UInt8} (h : St B w0 wr o co no k ck mk f cf mf O K F)
    (hown : w2.ownsRow B 5 1 (.slice (some ⟨g, 0, none⟩) (mk + 1) cap) (mk + 1) (vals K ++ [.int .u8 (c.toNat : Int)]))
    (hgrow : (wr.alloc x).grownBy w2 (Value.ownBlock (.slice (some ⟨k, 0, none⟩) mk ck))) (hat : Value.ownBlock (.slice (some ⟨k, 0, none⟩) mk ck) = some g ∨ g = (wr.alloc x).heap.size) :
    St B w0 w2 o co no g cap (mk + 1) f cf mf O (K ++ [c]) F := by
  obtain ⟨⟨l1, l2, l3⟩, h1, h2, h3, n1, n2, n3, hb, hB⟩ := h
  have a2 : wr.grownBy w2 (some k) := grow_step hgrow
  have hg : g = k ∨ wr.heap.size ≤ g := by
    rcases hat with e | e
    · left; simpa [Value.ownBlock] using e.symm
    · right; rw [e]; simp
  have k1 := own_lt h2
  have k2 := own_lt h3
  have k3 := own_lt h1
  exact ⟨⟨l1, by simp [l2], l3⟩, h1.kept a2 (.inr (by simp [Value.ownBlock]; omega)), by rw [vals_append]; exact hown, h3.kept a2 (.inr (by simp [Value.ownBlock]; omega)), by omega, by omega, by omega, hb.grown a2 hB (fun k h => by simp at h; omega), Nat.le_trans hB a2.size⟩

/-- An append to firsts. -/
theorem St.pushF {g cap : Nat} {x : Obj} {c : Bool} (h : St B w0 wr o co no k ck mk f cf mf O K F)
    (hown : w2.ownsRow B 4 1 (.slice (some ⟨g, 0, none⟩) (mf + 1) cap) (mf + 1) (bvals F ++ [.bool c]))
    (hgrow : (wr.alloc x).grownBy w2 (Value.ownBlock (.slice (some ⟨f, 0, none⟩) mf cf))) (hat : Value.ownBlock (.slice (some ⟨f, 0, none⟩) mf cf) = some g ∨ g = (wr.alloc x).heap.size) :
    St B w0 w2 o co no k ck mk g cap (mf + 1) O K (F ++ [c]) := by
  obtain ⟨⟨l1, l2, l3⟩, h1, h2, h3, n1, n2, n3, hb, hB⟩ := h
  have a2 : wr.grownBy w2 (some f) := grow_step hgrow
  have hg : g = f ∨ wr.heap.size ≤ g := by
    rcases hat with e | e
    · left; simpa [Value.ownBlock] using e.symm
    · right; rw [e]; simp
  have k1 := own_lt h2
  have k2 := own_lt h3
  have k3 := own_lt h1
  exact ⟨⟨l1, l2, by simp [l3]⟩, h1.kept a2 (.inr (by simp [Value.ownBlock]; omega)), h2.kept a2 (.inr (by simp [Value.ownBlock]; omega)), by rw [bvals_append]; exact hown, by omega, by omega, by omega, hb.grown a2 hB (fun k h => by simp at h; omega), Nat.le_trans hB a2.size⟩

/-- A store into firsts. -/
theorem St.store (h : St B w0 wr o co no k ck mk f cf mf O K F) (j : Nat) (b : Bool) :
    St B w0 (wr.setCell ⟨f, j, none⟩ (.bool b)) o co no k ck mk f cf mf O K (F.set j b) := by
  obtain ⟨⟨l1, l2, l3⟩, h1, h2, h3, n1, n2, n3, hb, hB⟩ := h
  obtain ⟨s1, s2⟩ := h3.stored j (.bool b)
  have k2 := own_lt h3
  refine ⟨⟨l1, l2, by simp [l3]⟩, h1.kept s2 (.inr (by simp [Value.ownBlock]; omega)), h2.kept s2 (.inr (by simp [Value.ownBlock]; omega)), ?_, n1, n2, n3, hb.setCell (by exact k2.1) _, Nat.le_trans hB s2.size⟩
  have e : (bvals F).set j (.bool b) = bvals (F.set j b) := by simp [bvals]
  rw [← e]; exact s1

/-- kinds is cut by one. -/
theorem St.popK {mk : Nat} (h : St B w0 wr o co no k ck (mk + 1) f cf mf O K F) : St B w0 wr o co no k ck mk f cf mf O (K.take mk) F := by
  obtain ⟨⟨l1, l2, l3⟩, h1, h2, h3, n1, n2, n3, hb, hB⟩ := h
  refine ⟨⟨l1, by simp; omega, l3⟩, h1, ?_, h3, n1, n2, n3, hb, hB⟩
  have e : vals K = vals (K.take mk) ++ vals (K.drop mk) := by rw [← vals_append, List.take_append_drop]
  rw [e] at h2
  exact ownsRow_pop (by rw [vals_length]; simp; omega) h2

/-- firsts is cut by one. -/
theorem St.popF {mf : Nat} (h : St B w0 wr o co no k ck mk f cf (mf + 1) O K F) : St B w0 wr o co no k ck mk f cf mf O K (F.take mf) := by
  obtain ⟨⟨l1, l2, l3⟩, h1, h2, h3, n1, n2, n3, hb, hB⟩ := h
  refine ⟨⟨l1, l2, by simp; omega⟩, h1, h2, ?_, n1, n2, n3, hb, hB⟩
  have e : bvals F = bvals (F.take mf) ++ bvals (F.drop mf) := by rw [← bvals_append, List.take_append_drop]
  rw [e] at h3
  exact ownsRow_pop (by rw [bvals_length]; simp; omega) h3

theorem St.cellK (h : St B w0 wr o co no k ck mk f cf mf O K F) {j : Nat} (hj : j < mk) : ∃ x : UInt8, wr.cell? ⟨k, j, none⟩ = some (.int .u8 (x.toNat : Int)) := by
  obtain ⟨⟨_, l2, _⟩, _, h2, _⟩ := h
  have hj' : j < K.length := by omega
  refine ⟨K[j], ?_⟩
  rw [h2.cellAt j (by omega)]
  exact vals_at (List.getElem?_eq_getElem hj')

theorem St.cellF (h : St B w0 wr o co no k ck mk f cf mf O K F) {j : Nat} (hj : j < mf) : (∃ b : Bool, wr.cell? ⟨f, j, none⟩ = some (.bool b)) ∧ wr.frozen? ⟨f, j, none⟩ = false := by
  obtain ⟨⟨_, _, l3⟩, _, _, h3, _⟩ := h
  have hj' : j < F.length := by omega
  refine ⟨⟨F[j], ?_⟩, h3.frozenAt j⟩
  rw [h3.cellAt j (by omega)]
  simp [bvals, hj']
end

end Go.Proofs.Qxb6000374a
