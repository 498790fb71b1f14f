/-
  The program may be entered: the closed fact 'mayEnter', cut into parts. WHY: the dump's head is a text of 904 signs; the kernel decodes it at the cost of its square: in one declaration it outgrows the memory's lid. Here its signs are given by their numbers, and the decoding goes by a law of the library.
-/
import Derived.Test.Qxb6000374aRows
import Derived.ProofKit
namespace Go.Proofs.Qxb6000374a

/-- The signs of a list of numbers. -/
def signs (l : List Nat) : List Char := l.map Char.ofNat

def word1 : List Nat := [104, 97, 114, 110, 101, 115, 115]
def word2 : List Nat := [97, 100, 98, 101, 50, 52, 100, 48, 52, 52, 100, 100, 52, 51, 53, 55, 52, 98, 57, 100, 57, 57, 50, 55, 98, 50, 54, 98, 57, 50, 98, 98, 52, 53, 98, 56, 53, 97, 98, 48, 54, 57, 50, 98, 52, 48, 99, 57, 99, 55, 51, 100, 48, 48, 53, 49, 53, 97, 53, 99, 52, 50, 99, 99]
def word3 : List Nat := [99, 117, 116]
def word4 : List Nat :=
    [97, 116, 32, 101, 120, 97, 109, 112, 108, 101, 46, 99, 111, 109, 47, 115, 116, 101, 119, 97, 114, 100, 47, 115, 116, 101, 119, 97, 114, 100, 47, 122,
    122, 108, 97, 119, 115, 95, 105, 110, 116, 101, 114, 110, 97, 108, 95, 106, 115, 111, 110, 115, 99, 97, 110, 95, 98, 49, 46, 70, 110, 83, 116, 114,
    105, 110, 103, 69, 110, 100, 65, 103, 114, 101, 101, 115, 87, 105, 116, 104, 65, 70, 111, 114, 119, 97, 114, 100, 83, 99, 97, 110, 110, 101, 114, 32,
    101, 120, 97, 109, 112, 108, 101, 46, 99, 111, 109, 47, 115, 116, 101, 119, 97, 114, 100, 47, 115, 116, 101, 119, 97, 114, 100, 47, 122, 122, 108, 97,
    119, 115, 95, 105, 110, 116, 101, 114, 110, 97, 108, 95, 106, 115, 111, 110, 115, 99, 97, 110, 95, 98, 49, 46, 70, 110, 83, 116, 114, 105, 110, 103,
    69, 110, 100, 73, 115, 68, 101, 99, 105, 100, 101, 100, 66, 121, 87, 104, 97, 116, 76, 105, 101, 115, 66, 101, 102, 111, 114, 101, 73, 116, 32, 101,
    120, 97, 109, 112, 108, 101, 46, 99, 111, 109, 47, 115, 116, 101, 119, 97, 114, 100, 47, 115, 116, 101, 119, 97, 114, 100, 47, 122, 122, 108, 97, 119,
    115, 95, 105, 110, 116, 101, 114, 110, 97, 108, 95, 106, 115, 111, 110, 115, 99, 97, 110, 95, 98, 49, 46, 70, 110, 83, 116, 114, 105, 110, 103, 69,
    110, 100, 70, 105, 110, 100, 115, 84, 104, 101, 81, 117, 111, 116, 101, 84, 104, 97, 116, 67, 108, 111, 115, 101, 115, 65, 110, 69, 115, 99, 97, 112,
    101, 100, 84, 101, 120, 116, 32, 101, 120, 97, 109, 112, 108, 101, 46, 99, 111, 109, 47, 115, 116, 101, 119, 97, 114, 100, 47, 115, 116, 101, 119, 97,
    114, 100, 47, 122, 122, 108, 97, 119, 115, 95, 105, 110, 116, 101, 114, 110, 97, 108, 95, 106, 115, 111, 110, 115, 99, 97, 110, 95, 98, 49, 46, 70,
    110, 86, 97, 108, 117, 101, 69, 110, 100, 70, 105, 110, 100, 115, 84, 104, 101, 69, 110, 100, 79, 102, 65, 87, 114, 105, 116, 116, 101, 110, 86, 97,
    108, 117, 101, 32, 101, 120, 97, 109, 112, 108, 101, 46, 99, 111, 109, 47, 115, 116, 101, 119, 97, 114, 100, 47, 115, 116, 101, 119, 97, 114, 100, 47,
    122, 122, 108, 97, 119, 115, 95, 105, 110, 116, 101, 114, 110, 97, 108, 95, 106, 115, 111, 110, 115, 99, 97, 110, 95, 98, 49, 46, 70, 110, 86, 97,
    108, 117, 101, 69, 110, 100, 82, 101, 102, 117, 115, 101, 115, 65, 67, 117, 116, 86, 97, 108, 117, 101, 32, 101, 120, 97, 109, 112, 108, 101, 46, 99,
    111, 109, 47, 115, 116, 101, 119, 97, 114, 100, 47, 115, 116, 101, 119, 97, 114, 100, 47, 122, 122, 108, 97, 119, 115, 95, 105, 110, 116, 101, 114,
    110, 97, 108, 95, 106, 115, 111, 110, 115, 99, 97, 110, 95, 98, 49, 46, 70, 110, 86, 97, 108, 117, 101, 69, 110, 100, 73, 115, 68, 101, 99, 105, 100,
    101, 100, 66, 121, 87, 104, 97, 116, 76, 105, 101, 115, 66, 101, 102, 111, 114, 101, 73, 116, 32, 101, 120, 97, 109, 112, 108, 101, 46, 99, 111, 109,
    47, 115, 116, 101, 119, 97, 114, 100, 47, 115, 116, 101, 119, 97, 114, 100, 47, 122, 122, 108, 97, 119, 115, 95, 105, 110, 116, 101, 114, 110, 97,
    108, 95, 106, 115, 111, 110, 115, 99, 97, 110, 95, 98, 49, 46, 70, 110, 72, 101, 120, 52, 82, 101, 97, 100, 115, 87, 104, 97, 116, 70, 111, 117, 114,
    68, 105, 103, 105, 116, 115, 87, 114, 105, 116, 101, 32, 101, 120, 97, 109, 112, 108, 101, 46, 99, 111, 109, 47, 115, 116, 101, 119, 97, 114, 100, 47,
    115, 116, 101, 119, 97, 114, 100, 47, 122, 122, 108, 97, 119, 115, 95, 105, 110, 116, 101, 114, 110, 97, 108, 95, 106, 115, 111, 110, 115, 99, 97,
    110, 95, 98, 49, 46, 70, 110, 72, 101, 120, 52, 84, 104, 101, 110, 87, 114, 105, 116, 105, 110, 103, 71, 105, 118, 101, 115, 84, 104, 101, 68, 105,
    103, 105, 116, 115, 66, 97, 99, 107, 32, 101, 120, 97, 109, 112, 108, 101, 46, 99, 111, 109, 47, 115, 116, 101, 119, 97, 114, 100, 47, 115, 116, 101,
    119, 97, 114, 100, 47, 122, 122, 108, 97, 119, 115, 95, 105, 110, 116, 101, 114, 110, 97, 108, 95, 106, 115, 111, 110, 115, 99, 97, 110, 95, 98, 49,
    46, 70, 110, 72, 101, 120, 52, 75, 101, 101, 112, 115, 84, 104, 101, 79, 114, 100, 101, 114, 79, 102, 68, 105, 103, 105, 116, 115]

theorem Try.order : Try.prog.initOrder = String.ofList (signs word1 ++ ' ' :: (signs word2 ++ ' ' :: (signs word3 ++ ' ' :: signs word4))) := by kernel_rfl

theorem ws_blank (r : List Char) : wordsSigns (' ' :: r) = [] :: wordsSigns r := by simp [wordsSigns]

theorem ws_word (r : List Char) : ∀ w : List Char, (∀ c ∈ w, c ≠ ' ') → wordsSigns (w ++ ' ' :: r) = w :: wordsSigns r
  | [], _ => ws_blank r
  | c :: w, h => by
    have ih := ws_word r w (fun x hx => h x (List.mem_cons_of_mem _ hx))
    have hc : c ≠ ' ' := h c (List.mem_cons_self ..)
    rw [List.cons_append, wordsSigns, ih]
    exact hc

theorem blank1 : ∀ c ∈ signs word1, c ≠ ' ' := by decide +kernel
theorem blank2 : ∀ c ∈ signs word2, c ≠ ' ' := by decide +kernel
theorem blank3 : ∀ c ∈ signs word3, c ≠ ' ' := by decide +kernel
theorem harness1 : (signs word1 == "harness".toList) = true := by decide +kernel
theorem sum2 : isSumSigns (signs word2) = true := by decide +kernel
theorem cut3 : signs word3 = "cut".toList := by decide +kernel

theorem behind_main (h s : List Char) (r : List (List Char)) : behindMainWord (h :: s :: r) = if ((h == "harness".toList || h == "ownmain".toList) && isSumSigns s) = true then r else h :: s :: r := rfl

theorem Try.words : behindMainWord (wordsSigns Try.prog.initOrder.toList) = "cut".toList :: wordsSigns (signs word4) := by
  rw [Try.order, String.toList_ofList, ws_word _ _ blank1, ws_word _ _ blank2, ws_word _ _ blank3, ← cut3]
  rw [behind_main, harness1, sum2]
  rfl

theorem strip_cut (rest : List (List Char)) : stripLifts liftWords ("cut".toList :: rest) = ([], "cut".toList :: rest) := by
  simp [stripLifts, liftWords]

theorem mayEnter_of {P : Program} {rest : List (List Char)} (hw : behindMainWord (wordsSigns P.initOrder.toList) = "cut".toList :: rest)
    (h1 : P.laysLater = false) (h2 : P.bearsReflect = false) (h3 : P.doorFits [] = true) : P.mayEnter = true := by
  unfold Program.mayEnter
  rw [hw]
  simp only [strip_cut, h1, h2, h3]
  simp

theorem lifts_of {P : Program} {rest : List (List Char)} (hw : behindMainWord (wordsSigns P.initOrder.toList) = "cut".toList :: rest) : P.liftsFinal = false := by
  unfold Program.liftsFinal Program.headLifts
  rw [hw]
  simp only [strip_cut]
  simp

theorem make_of {P : Program} {rest : List (List Char)} (hw : behindMainWord (wordsSigns P.initOrder.toList) = "cut".toList :: rest) : P.make = some .cut := by
  unfold Program.make
  rw [hw]
  simp

theorem Try.laysNone : Try.prog.laysLater = false := by kernel_rfl
theorem Try.reflectNone : Try.prog.bearsReflect = false := by kernel_rfl
theorem Try.doorNone : Try.prog.doorFits [] = true := by kernel_rfl

theorem Try.enters : Try.prog.mayEnter = true := mayEnter_of Try.words Try.laysNone Try.reflectNone Try.doorNone
theorem Try.lifts : Try.prog.liftsFinal = false := lifts_of Try.words
theorem Try.made : Try.prog.make = some .cut := make_of Try.words

end Go.Proofs.Qxb6000374a
