/-
  The row's closed facts. Each becomes a lemma of its own ('as_aux_lemma'), so that the kernel gives its memory back behind it. The three that read the dump's head word go by its signs, written out: a string's 'toList' costs the kernel gigabytes at some 800 signs, while that the string is made of these signs costs it nothing.
-/
import Derived.Test.Qxb6000591aRows
import Derived.JoinedOf
import Derived.KernelRfl
namespace Go.Proofs.Qxb6000591a

theorem and_mk {a b : Bool} (h : a = true) (k : b = true) : (a && b) = true := by rw [h, k]; rfl

/-- The signs of the dump's head word, by their numbers. -/
def signs : List Char := ([104, 97, 114, 110, 101, 115, 115, 32, 52, 52, 100, 54, 49, 50, 55, 98, 97, 55, 53, 49, 97, 100, 57, 54, 102, 98, 49, 53, 57, 48, 97, 48, 102, 57, 98, 97, 54, 98, 49, 98, 97, 55,
    99, 55, 55, 54, 48, 99, 56, 100, 51, 53, 97, 53, 98, 51, 54, 53, 52, 98, 54, 101, 102, 53, 50, 52, 49, 98, 99, 100, 48, 101, 32, 99, 117, 116, 32, 97, 116, 32, 101, 120, 97, 109,
    112, 108, 101, 46, 99, 111, 109, 47, 114, 101, 108, 97, 121, 102, 114, 97, 109, 101, 47, 114, 101, 108, 97, 121, 102, 114, 97, 109, 101, 47, 122, 122, 108, 97, 119, 115, 95, 105,
    110, 116, 101, 114, 110, 97, 108, 95, 99, 111, 110, 102, 105, 103, 95, 98, 49, 46, 70, 110, 86, 97, 108, 105, 100, 82, 101, 97, 108, 109, 77, 97, 116, 99, 104, 101, 115, 65, 108,
    112, 104, 97, 98, 101, 116, 32, 101, 120, 97, 109, 112, 108, 101, 46, 99, 111, 109, 47, 114, 101, 108, 97, 121, 102, 114, 97, 109, 101, 47, 114, 101, 108, 97, 121, 102, 114, 97,
    109, 101, 47, 122, 122, 108, 97, 119, 115, 95, 105, 110, 116, 101, 114, 110, 97, 108, 95, 99, 111, 110, 102, 105, 103, 95, 98, 49, 46, 70, 110, 86, 97, 108, 105, 100, 82, 101, 97,
    108, 109, 67, 111, 110, 99, 97, 116, 32, 101, 120, 97, 109, 112, 108, 101, 46, 99, 111, 109, 47, 114, 101, 108, 97, 121, 102, 114, 97, 109, 101, 47, 114, 101, 108, 97, 121, 102,
    114, 97, 109, 101, 47, 122, 122, 108, 97, 119, 115, 95, 105, 110, 116, 101, 114, 110, 97, 108, 95, 99, 111, 110, 102, 105, 103, 95, 98, 49, 46, 70, 110, 80, 111, 115, 105, 116,
    105, 111, 110, 77, 97, 116, 99, 104, 101, 115, 83, 99, 97, 110, 32, 101, 120, 97, 109, 112, 108, 101, 46, 99, 111, 109, 47, 114, 101, 108, 97, 121, 102, 114, 97, 109, 101, 47, 114,
    101, 108, 97, 121, 102, 114, 97, 109, 101, 47, 122, 122, 108, 97, 119, 115, 95, 105, 110, 116, 101, 114, 110, 97, 108, 95, 99, 111, 110, 102, 105, 103, 95, 98, 49, 46, 70, 110, 80,
    111, 115, 105, 116, 105, 111, 110, 67, 108, 97, 109, 112, 115, 65, 110, 100, 66, 111, 117, 110, 100, 115, 32, 101, 120, 97, 109, 112, 108, 101, 46, 99, 111, 109, 47, 114, 101, 108,
    97, 121, 102, 114, 97, 109, 101, 47, 114, 101, 108, 97, 121, 102, 114, 97, 109, 101, 47, 122, 122, 108, 97, 119, 115, 95, 105, 110, 116, 101, 114, 110, 97, 108, 95, 99, 111, 110,
    102, 105, 103, 95, 98, 49, 46, 70, 110, 80, 111, 115, 105, 116, 105, 111, 110, 79, 114, 100, 101, 114, 101, 100] : List Nat).map Char.ofNat
theorem head_eq : Try.prog.initOrder = String.ofList signs := by kernel_rfl
theorem head_signs : Try.prog.initOrder.toList = signs := by rw [head_eq, String.toList_ofList]

theorem words_val : behindMainWord (wordsSigns signs) = "cut".toList :: (behindMainWord (wordsSigns signs)).tail := by kernel_rfl
theorem lifts_val (r : List (List Char)) : stripLifts liftWords ("cut".toList :: r) = ([], "cut".toList :: r) := by kernel_rfl
theorem may_val {P : Program} (h : P.initOrder.toList = signs) (h1 : P.laysLater = false) (h2 : P.bearsReflect = false) (h3 : P.doorFits [] = true) : P.mayEnter = true := by
  unfold Program.mayEnter
  rw [h, words_val]
  dsimp only
  rw [lifts_val]
  dsimp only
  rw [h1, h2, h3]
  kernel_rfl
theorem lifts_none {P : Program} (h : P.initOrder.toList = signs) : P.liftsFinal = false := by
  unfold Program.liftsFinal Program.headLifts
  rw [h]
  kernel_rfl
theorem make_val {P : Program} (h : P.initOrder.toList = signs) : P.make = some Make.cut := by
  unfold Program.make
  rw [h]
  kernel_rfl

set_option maxHeartbeats 20000000 in
theorem closedScan : joinedFacts Try.prog 5 Try.f5 Rows.fnPositionMatchesScanSpec Rows.fnPositionMatchesScanRow = true := by
  unfold joinedFacts
  refine and_mk (and_mk (and_mk (and_mk (and_mk (and_mk (and_mk (and_mk (and_mk (and_mk (and_mk (and_mk (and_mk (and_mk (and_mk (and_mk (and_mk (and_mk (and_mk (and_mk (and_mk (and_mk (and_mk (and_mk (and_mk (and_mk (and_mk (and_mk (and_mk (and_mk (and_mk ?k1 ?k2) ?k3) ?k4) ?k5) ?k6) ?k7) ?k8) ?k9) ?k10) ?k11) ?k12) ?k13) ?k14) ?k15) ?k16) ?k17) ?k18) ?k19) ?k20) ?k21) ?k22) ?k23) ?k24) ?k25) ?k26) ?k27) ?k28) ?k29) ?k30) ?k31) ?k32
  case k26 => exact may_val head_signs (by as_aux_lemma => kernel_rfl) (by as_aux_lemma => kernel_rfl) (by as_aux_lemma => kernel_rfl)
  case k27 => rw [lifts_none head_signs]; as_aux_lemma => kernel_rfl
  case k28 => rw [make_val head_signs]; as_aux_lemma => kernel_rfl
  all_goals (as_aux_lemma => kernel_rfl)

set_option maxHeartbeats 20000000 in
theorem closedOrdered : joinedFacts Try.prog 7 Try.f7 Rows.fnPositionOrderedSpec Rows.fnPositionOrderedRow = true := by
  unfold joinedFacts
  refine and_mk (and_mk (and_mk (and_mk (and_mk (and_mk (and_mk (and_mk (and_mk (and_mk (and_mk (and_mk (and_mk (and_mk (and_mk (and_mk (and_mk (and_mk (and_mk (and_mk (and_mk (and_mk (and_mk (and_mk (and_mk (and_mk (and_mk (and_mk (and_mk (and_mk (and_mk ?k1 ?k2) ?k3) ?k4) ?k5) ?k6) ?k7) ?k8) ?k9) ?k10) ?k11) ?k12) ?k13) ?k14) ?k15) ?k16) ?k17) ?k18) ?k19) ?k20) ?k21) ?k22) ?k23) ?k24) ?k25) ?k26) ?k27) ?k28) ?k29) ?k30) ?k31) ?k32
  case k26 => exact may_val head_signs (by as_aux_lemma => kernel_rfl) (by as_aux_lemma => kernel_rfl) (by as_aux_lemma => kernel_rfl)
  case k27 => rw [lifts_none head_signs]; as_aux_lemma => kernel_rfl
  case k28 => rw [make_val head_signs]; as_aux_lemma => kernel_rfl
  all_goals (as_aux_lemma => kernel_rfl)
end Go.Proofs.Qxb6000591a
