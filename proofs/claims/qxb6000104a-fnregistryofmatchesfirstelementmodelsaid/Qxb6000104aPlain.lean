/-
  THE PLAIN FUNCTIONS of seat b6000104a: what splitReference answers, said of byte arrays. No Go in sight.
-/
import Derived.Lib.Bytealg
import Derived.Lib.LastIndexByte
import Derived.Lib.Strings
namespace Go.Proofs.Qxb6000104a

/-- The tag's part: at the last colon, if it stands behind the last slash. -/
def tagP (B : ByteArray) : ByteArray × ByteArray :=
  if Lib.lastIndexByte B 47 < Lib.lastIndexByte B 58 then
    (B.extract 0 (Lib.lastIndexByte B 58).toNat, B.extract ((Lib.lastIndexByte B 58).toNat + 1) B.size)
  else (B, ByteArray.empty)

/-- What splitReference answers. -/
def splitP (s : ByteArray) : ByteArray × ByteArray :=
  if Lib.indexByte s.data.toList 64 = -1 then tagP s
  else ((tagP (s.extract 0 (Lib.indexByte s.data.toList 64).toNat)).1, s.extract ((Lib.indexByte s.data.toList 64).toNat + 1) s.size)

theorem splitP_miss {s : ByteArray} (h : Lib.indexByte s.data.toList 64 = -1) : splitP s = tagP s := by
  unfold splitP; rw [if_pos h]

theorem splitP_hit {s : ByteArray} {p : Nat} (h : Lib.indexByte s.data.toList 64 = p) :
    splitP s = ((tagP (s.extract 0 p)).1, s.extract (p + 1) s.size) := by
  unfold splitP
  rw [if_neg (by omega), h]
  simp

theorem tagP_yes {B : ByteArray} {a : Nat} (ha : Lib.lastIndexByte B 58 = a) (h : Lib.lastIndexByte B 47 < a) :
    tagP B = (B.extract 0 a, B.extract (a + 1) B.size) := by
  unfold tagP
  rw [if_pos (by omega), ha]
  simp

theorem tagP_no {B : ByteArray} (h : ¬ Lib.lastIndexByte B 47 < Lib.lastIndexByte B 58) : tagP B = (B, ByteArray.empty) := by
  unfold tagP
  rw [if_neg h]

theorem last_bd (B : ByteArray) (c : Int) : -1 ≤ Lib.lastIndexByte B c ∧ Lib.lastIndexByte B c < B.size := by
  rcases Lib.lastIndexByte_spec B c with ⟨h, _⟩ | ⟨i, hi, h, _, _⟩ <;> omega

theorem lastIdx_bd (B : ByteArray) (c : Int) (k : Nat) : -1 ≤ Lib.lastIdx B c k ∧ Lib.lastIdx B c k < k := by
  rcases Lib.lastIdx_spec B c k with ⟨h, _⟩ | ⟨i, hi, h, _, _⟩ <;> omega

theorem size_extract (s : ByteArray) (p : Nat) (h : p ≤ s.size) : (s.extract 0 p).size = p := by
  simp; omega

end Go.Proofs.Qxb6000104a
