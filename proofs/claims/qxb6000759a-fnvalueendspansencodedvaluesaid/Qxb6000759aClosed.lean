/-
  The row's closed facts. Each becomes a lemma of its own ('as_aux_lemma'), so that the kernel gives its memory back behind it. The three that read the dump's head word go by its signs, written out: a string's 'toList' costs the kernel gigabytes at some 800 signs, while that the string is made of these signs costs it nothing.
-/
import Derived.Test.Qxb6000759aRows
import Derived.JoinedOf
import Derived.KernelRfl
namespace Go.Proofs.Qxb6000759a

theorem and_mk {a b : Bool} (h : a = true) (k : b = true) : (a && b) = true := by rw [h, k]; rfl

/-- The signs of the dump's head word, by their numbers. -/
def signs : List Char := ([104, 97, 114, 110, 101, 115, 115, 32, 101, 102, 50, 99, 57, 101, 57, 54, 52, 102, 98, 97, 54, 54, 57, 100, 52, 99, 101, 101, 53, 57, 56, 49, 102, 49, 100, 50, 101, 51, 51, 49, 57,
    55, 48, 99, 97, 102, 53, 51, 56, 50, 56, 54, 52, 49, 48, 102, 55, 101, 57, 53, 53, 48, 57, 57, 100, 99, 52, 55, 51, 55, 97, 55, 32, 99, 117, 116, 32, 97, 116, 32, 101, 120, 97,
    109, 112, 108, 101, 46, 99, 111, 109, 47, 115, 105, 103, 110, 97, 108, 98, 111, 120, 47, 115, 105, 103, 110, 97, 108, 98, 111, 120, 47, 122, 122, 108, 97, 119, 115, 95, 105, 110,
    116, 101, 114, 110, 97, 108, 95, 99, 111, 110, 102, 105, 103, 95, 98, 49, 46, 70, 110, 72, 97, 115, 68, 111, 116, 83, 101, 103, 109, 101, 110, 116, 77, 97, 116, 99, 104, 101, 115,
    83, 99, 97, 110, 77, 111, 100, 101, 108, 32, 101, 120, 97, 109, 112, 108, 101, 46, 99, 111, 109, 47, 115, 105, 103, 110, 97, 108, 98, 111, 120, 47, 115, 105, 103, 110, 97, 108, 98,
    111, 120, 47, 122, 122, 108, 97, 119, 115, 95, 105, 110, 116, 101, 114, 110, 97, 108, 95, 99, 111, 110, 102, 105, 103, 95, 98, 49, 46, 70, 110, 72, 97, 115, 68, 111, 116, 83, 101,
    103, 109, 101, 110, 116, 74, 111, 105, 110, 73, 115, 79, 114, 32, 101, 120, 97, 109, 112, 108, 101, 46, 99, 111, 109, 47, 115, 105, 103, 110, 97, 108, 98, 111, 120, 47, 115, 105,
    103, 110, 97, 108, 98, 111, 120, 47, 122, 122, 108, 97, 119, 115, 95, 105, 110, 116, 101, 114, 110, 97, 108, 95, 99, 111, 110, 102, 105, 103, 95, 98, 49, 46, 70, 110, 72, 97, 115,
    68, 111, 116, 83, 101, 103, 109, 101, 110, 116, 66, 97, 99, 107, 115, 108, 97, 115, 104, 73, 115, 83, 108, 97, 115, 104, 32, 101, 120, 97, 109, 112, 108, 101, 46, 99, 111, 109, 47,
    115, 105, 103, 110, 97, 108, 98, 111, 120, 47, 115, 105, 103, 110, 97, 108, 98, 111, 120, 47, 122, 122, 108, 97, 119, 115, 95, 105, 110, 116, 101, 114, 110, 97, 108, 95, 99, 111,
    110, 102, 105, 103, 95, 98, 49, 46, 70, 110, 80, 108, 97, 105, 110, 84, 97, 103, 65, 99, 99, 101, 112, 116, 115, 69, 118, 101, 114, 121, 68, 101, 99, 105, 109, 97, 108, 66, 101,
    108, 111, 119, 49, 101, 49, 56, 32, 101, 120, 97, 109, 112, 108, 101, 46, 99, 111, 109, 47, 115, 105, 103, 110, 97, 108, 98, 111, 120, 47, 115, 105, 103, 110, 97, 108, 98, 111,
    120, 47, 122, 122, 108, 97, 119, 115, 95, 105, 110, 116, 101, 114, 110, 97, 108, 95, 99, 111, 110, 102, 105, 103, 95, 98, 49, 46, 70, 110, 80, 108, 97, 105, 110, 84, 97, 103, 73,
    110, 116, 79, 110, 108, 121, 70, 111, 114, 67, 97, 110, 111, 110, 105, 99, 97, 108, 68, 101, 99, 105, 109, 97, 108, 115, 32, 101, 120, 97, 109, 112, 108, 101, 46, 99, 111, 109, 47,
    115, 105, 103, 110, 97, 108, 98, 111, 120, 47, 115, 105, 103, 110, 97, 108, 98, 111, 120, 47, 122, 122, 108, 97, 119, 115, 95, 105, 110, 116, 101, 114, 110, 97, 108, 95, 99, 111,
    110, 102, 105, 103, 95, 98, 49, 46, 70, 110, 80, 108, 97, 105, 110, 84, 97, 103, 68, 105, 103, 105, 116, 76, 101, 100, 78, 111, 110, 73, 110, 116, 101, 103, 101, 114, 115, 32, 101,
    120, 97, 109, 112, 108, 101, 46, 99, 111, 109, 47, 115, 105, 103, 110, 97, 108, 98, 111, 120, 47, 115, 105, 103, 110, 97, 108, 98, 111, 120, 47, 122, 122, 108, 97, 119, 115, 95,
    105, 110, 116, 101, 114, 110, 97, 108, 95, 99, 111, 110, 102, 105, 103, 95, 98, 49, 46, 70, 110, 86, 97, 108, 117, 101, 69, 110, 100, 83, 112, 97, 110, 115, 69, 110, 99, 111, 100,
    101, 100, 86, 97, 108, 117, 101, 32, 101, 120, 97, 109, 112, 108, 101, 46, 99, 111, 109, 47, 115, 105, 103, 110, 97, 108, 98, 111, 120, 47, 115, 105, 103, 110, 97, 108, 98, 111,
    120, 47, 122, 122, 108, 97, 119, 115, 95, 105, 110, 116, 101, 114, 110, 97, 108, 95, 99, 111, 110, 102, 105, 103, 95, 98, 49, 46, 70, 110, 86, 97, 108, 117, 101, 69, 110, 100, 83,
    116, 101, 112, 115, 84, 104, 114, 111, 117, 103, 104, 65, 114, 114, 97, 121, 69, 108, 101, 109, 101, 110, 116, 115] : List Nat).map Char.ofNat
theorem head_eq : Try.prog.initOrder = String.ofList signs := by kernel_rfl
theorem head_signs : Try.prog.initOrder.toList = signs := by rw [head_eq, String.toList_ofList]

theorem words_val : behindMainWord (wordsSigns signs) = "cut".toList :: (behindMainWord (wordsSigns signs)).tail := by kernel_rfl
theorem lifts_val (r : List (List Char)) : stripLifts liftWords ("cut".toList :: r) = ([], "cut".toList :: r) := by kernel_rfl
theorem may_val {P : Program} (h : P.initOrder.toList = signs) (h1 : P.laysLater = false) (h2 : P.bearsReflect = false) (h3 : P.doorFits [] = true) : P.mayEnter = true := by
  unfold Program.mayEnter
  rw [h, words_val]
  dsimp only
  rw [lifts_val]
  dsimp only
  rw [h1, h2, h3]
  kernel_rfl
theorem lifts_none {P : Program} (h : P.initOrder.toList = signs) : P.liftsFinal = false := by
  unfold Program.liftsFinal Program.headLifts
  rw [h]
  kernel_rfl
theorem make_val {P : Program} (h : P.initOrder.toList = signs) : P.make = some Make.cut := by
  unfold Program.make
  rw [h]
  kernel_rfl

set_option maxHeartbeats 20000000 in
theorem closed : joinedFacts Try.prog 9 Try.f9 Rows.fnValueEndSpansEncodedValueSpec Rows.fnValueEndSpansEncodedValueRow = true := by
  unfold joinedFacts
  refine and_mk (and_mk (and_mk (and_mk (and_mk (and_mk (and_mk (and_mk (and_mk (and_mk (and_mk (and_mk (and_mk (and_mk (and_mk (and_mk (and_mk (and_mk (and_mk (and_mk (and_mk (and_mk (and_mk (and_mk (and_mk (and_mk (and_mk (and_mk (and_mk (and_mk (and_mk ?k1 ?k2) ?k3) ?k4) ?k5) ?k6) ?k7) ?k8) ?k9) ?k10) ?k11) ?k12) ?k13) ?k14) ?k15) ?k16) ?k17) ?k18) ?k19) ?k20) ?k21) ?k22) ?k23) ?k24) ?k25) ?k26) ?k27) ?k28) ?k29) ?k30) ?k31) ?k32
  case k26 => exact may_val head_signs (by as_aux_lemma => kernel_rfl) (by as_aux_lemma => kernel_rfl) (by as_aux_lemma => kernel_rfl)
  case k27 => rw [lifts_none head_signs]; as_aux_lemma => kernel_rfl
  case k28 => rw [make_val head_signs]; as_aux_lemma => kernel_rfl
  all_goals (as_aux_lemma => kernel_rfl)
end Go.Proofs.Qxb6000759a
