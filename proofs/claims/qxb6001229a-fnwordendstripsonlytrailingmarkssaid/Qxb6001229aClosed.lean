/-
  The row's closed facts. Each becomes a lemma of its own ('as_aux_lemma'), so that the kernel gives its memory back behind it. The three that read the dump's head word go by its signs, written out: a string's 'toList' costs the kernel gigabytes at some 800 signs, while that the string is made of these signs costs it nothing.
-/
import Derived.Test.Qxb6001229aRows
import Derived.JoinedOf
import Derived.KernelRfl
namespace Go.Proofs.Qxb6001229a

theorem and_mk {a b : Bool} (h : a = true) (k : b = true) : (a && b) = true := by rw [h, k]; rfl

/-- The signs of the dump's head word, by their numbers. -/
def signs : List Char := ([104, 97, 114, 110, 101, 115, 115, 32, 53, 57, 50, 100, 98, 99, 50, 99, 53, 55, 102, 49, 97, 99, 54, 98, 100, 54, 55, 100, 49, 52, 100, 102, 51, 101, 97, 51, 49, 99, 102, 97, 52,
    53, 48, 54, 51, 101, 55, 102, 57, 51, 100, 57, 101, 98, 53, 55, 99, 55, 99, 51, 57, 54, 57, 57, 99, 100, 56, 53, 97, 51, 55, 97, 32, 99, 117, 116, 32, 97, 116, 32, 101, 120, 97,
    109, 112, 108, 101, 46, 99, 111, 109, 47, 114, 101, 99, 105, 116, 97, 108, 47, 114, 101, 99, 105, 116, 97, 108, 47, 122, 122, 108, 97, 119, 115, 95, 112, 107, 103, 95, 100, 111,
    99, 117, 109, 101, 110, 116, 95, 98, 49, 46, 70, 110, 70, 105, 103, 117, 114, 101, 79, 114, 100, 105, 110, 97, 108, 82, 101, 97, 100, 115, 69, 118, 101, 114, 121, 79, 114, 100,
    105, 110, 97, 108, 32, 101, 120, 97, 109, 112, 108, 101, 46, 99, 111, 109, 47, 114, 101, 99, 105, 116, 97, 108, 47, 114, 101, 99, 105, 116, 97, 108, 47, 122, 122, 108, 97, 119,
    115, 95, 112, 107, 103, 95, 100, 111, 99, 117, 109, 101, 110, 116, 95, 98, 49, 46, 70, 110, 70, 105, 103, 117, 114, 101, 79, 114, 100, 105, 110, 97, 108, 78, 111, 110, 122, 101,
    114, 111, 79, 110, 108, 121, 67, 97, 110, 111, 110, 105, 99, 97, 108, 32, 101, 120, 97, 109, 112, 108, 101, 46, 99, 111, 109, 47, 114, 101, 99, 105, 116, 97, 108, 47, 114, 101, 99,
    105, 116, 97, 108, 47, 122, 122, 108, 97, 119, 115, 95, 112, 107, 103, 95, 100, 111, 99, 117, 109, 101, 110, 116, 95, 98, 49, 46, 70, 110, 70, 105, 103, 117, 114, 101, 79, 114,
    100, 105, 110, 97, 108, 76, 101, 97, 100, 105, 110, 103, 90, 101, 114, 111, 73, 103, 110, 111, 114, 101, 100, 32, 101, 120, 97, 109, 112, 108, 101, 46, 99, 111, 109, 47, 114, 101,
    99, 105, 116, 97, 108, 47, 114, 101, 99, 105, 116, 97, 108, 47, 122, 122, 108, 97, 119, 115, 95, 112, 107, 103, 95, 100, 111, 99, 117, 109, 101, 110, 116, 95, 98, 49, 46, 70, 110,
    78, 101, 115, 116, 105, 110, 103, 67, 117, 114, 108, 121, 77, 97, 114, 107, 115, 70, 111, 108, 108, 111, 119, 66, 97, 108, 97, 110, 99, 101, 32, 101, 120, 97, 109, 112, 108, 101,
    46, 99, 111, 109, 47, 114, 101, 99, 105, 116, 97, 108, 47, 114, 101, 99, 105, 116, 97, 108, 47, 122, 122, 108, 97, 119, 115, 95, 112, 107, 103, 95, 100, 111, 99, 117, 109, 101,
    110, 116, 95, 98, 49, 46, 70, 110, 87, 111, 114, 100, 69, 110, 100, 67, 111, 110, 99, 97, 116, 32, 101, 120, 97, 109, 112, 108, 101, 46, 99, 111, 109, 47, 114, 101, 99, 105, 116,
    97, 108, 47, 114, 101, 99, 105, 116, 97, 108, 47, 122, 122, 108, 97, 119, 115, 95, 112, 107, 103, 95, 100, 111, 99, 117, 109, 101, 110, 116, 95, 98, 49, 46, 70, 110, 87, 111, 114,
    100, 69, 110, 100, 83, 116, 114, 105, 112, 115, 79, 110, 108, 121, 84, 114, 97, 105, 108, 105, 110, 103, 77, 97, 114, 107, 115, 32, 101, 120, 97, 109, 112, 108, 101, 46, 99, 111,
    109, 47, 114, 101, 99, 105, 116, 97, 108, 47, 114, 101, 99, 105, 116, 97, 108, 47, 122, 122, 108, 97, 119, 115, 95, 112, 107, 103, 95, 100, 111, 99, 117, 109, 101, 110, 116, 95,
    98, 49, 46, 70, 110, 87, 111, 114, 100, 69, 110, 100, 76, 101, 102, 116, 66, 111, 117, 110, 100, 115] : List Nat).map Char.ofNat
theorem head_eq : Try.prog.initOrder = String.ofList signs := by kernel_rfl
theorem head_signs : Try.prog.initOrder.toList = signs := by rw [head_eq, String.toList_ofList]

theorem words_val : behindMainWord (wordsSigns signs) = "cut".toList :: (behindMainWord (wordsSigns signs)).tail := by kernel_rfl
theorem lifts_val (r : List (List Char)) : stripLifts liftWords ("cut".toList :: r) = ([], "cut".toList :: r) := by kernel_rfl
theorem may_val {P : Program} (h : P.initOrder.toList = signs) (h1 : P.laysLater = false) (h2 : P.bearsReflect = false) (h3 : P.doorFits [] = true) : P.mayEnter = true := by
  unfold Program.mayEnter
  rw [h, words_val]
  dsimp only
  rw [lifts_val]
  dsimp only
  rw [h1, h2, h3]
  kernel_rfl
theorem lifts_none {P : Program} (h : P.initOrder.toList = signs) : P.liftsFinal = false := by
  unfold Program.liftsFinal Program.headLifts
  rw [h]
  kernel_rfl
theorem make_val {P : Program} (h : P.initOrder.toList = signs) : P.make = some Make.cut := by
  unfold Program.make
  rw [h]
  kernel_rfl

set_option maxHeartbeats 20000000 in
theorem closed : joinedFacts Try.prog 8 Try.f8 Rows.fnWordEndStripsOnlyTrailingMarksSpec Rows.fnWordEndStripsOnlyTrailingMarksRow = true := by
  unfold joinedFacts
  refine and_mk (and_mk (and_mk (and_mk (and_mk (and_mk (and_mk (and_mk (and_mk (and_mk (and_mk (and_mk (and_mk (and_mk (and_mk (and_mk (and_mk (and_mk (and_mk (and_mk (and_mk (and_mk (and_mk (and_mk (and_mk (and_mk (and_mk (and_mk (and_mk (and_mk (and_mk ?k1 ?k2) ?k3) ?k4) ?k5) ?k6) ?k7) ?k8) ?k9) ?k10) ?k11) ?k12) ?k13) ?k14) ?k15) ?k16) ?k17) ?k18) ?k19) ?k20) ?k21) ?k22) ?k23) ?k24) ?k25) ?k26) ?k27) ?k28) ?k29) ?k30) ?k31) ?k32
  case k26 => exact may_val head_signs (by as_aux_lemma => kernel_rfl) (by as_aux_lemma => kernel_rfl) (by as_aux_lemma => kernel_rfl)
  case k27 => rw [lifts_none head_signs]; as_aux_lemma => kernel_rfl
  case k28 => rw [make_val head_signs]; as_aux_lemma => kernel_rfl
  all_goals (as_aux_lemma => kernel_rfl)
end Go.Proofs.Qxb6001229a
