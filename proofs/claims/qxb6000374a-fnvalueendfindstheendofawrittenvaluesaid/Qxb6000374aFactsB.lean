/-
  THE CLOSED FACTS of the row FnValueEndFindsTheEndOfAWrittenValue, one by one.
-/
import Derived.Test.Qxb6000374aEnter
namespace Go.Proofs.Qxb6000374a.factsB

theorem and_mk {a b : Bool} (ha : a = true) (hb : b = true) : (a && b) = true := by rw [ha, hb]; rfl

theorem lifted : (Rows.fnValueEndFindsTheEndOfAWrittenValueRow.lifted == Try.prog.liftsFinal) = true := by rw [Try.lifts]; rfl
theorem made : (Try.prog.make == some Rows.fnValueEndFindsTheEndOfAWrittenValueRow.make) = true := by rw [Try.made]; rfl

set_option maxHeartbeats 4000000 in
theorem closed : joinedFacts Try.prog 6 Try.f6 Rows.fnValueEndFindsTheEndOfAWrittenValueSpec Rows.fnValueEndFindsTheEndOfAWrittenValueRow = true := by
  unfold joinedFacts
  exact and_mk (and_mk (and_mk (and_mk (and_mk (and_mk (and_mk (and_mk (and_mk (and_mk (and_mk (and_mk (and_mk (and_mk (and_mk (and_mk (and_mk (and_mk (and_mk (and_mk (and_mk (and_mk (and_mk (and_mk (and_mk (and_mk (and_mk (and_mk (and_mk (and_mk (and_mk
    (by as_aux_lemma => kernel_rfl) (by as_aux_lemma => kernel_rfl)) (by as_aux_lemma => kernel_rfl)) (by as_aux_lemma => kernel_rfl)) (by as_aux_lemma => kernel_rfl)) (by as_aux_lemma => kernel_rfl)) (by as_aux_lemma => kernel_rfl)) (by as_aux_lemma => kernel_rfl)) (by as_aux_lemma => kernel_rfl)) (by as_aux_lemma => kernel_rfl)) (by as_aux_lemma => kernel_rfl)) (by as_aux_lemma => kernel_rfl)) (by as_aux_lemma => kernel_rfl)) (by as_aux_lemma => kernel_rfl)) (by as_aux_lemma => kernel_rfl)) (by as_aux_lemma => kernel_rfl)) (by as_aux_lemma => kernel_rfl)) (by as_aux_lemma => kernel_rfl)) (by as_aux_lemma => kernel_rfl)) (by as_aux_lemma => kernel_rfl)) (by as_aux_lemma => kernel_rfl)) (by as_aux_lemma => kernel_rfl)) (by as_aux_lemma => kernel_rfl)) (by as_aux_lemma => kernel_rfl)) (by as_aux_lemma => kernel_rfl)) Try.enters) lifted) made) (by as_aux_lemma => kernel_rfl)) (by as_aux_lemma => kernel_rfl)) (by as_aux_lemma => kernel_rfl)) (by as_aux_lemma => kernel_rfl)

end Go.Proofs.Qxb6000374a.factsB
