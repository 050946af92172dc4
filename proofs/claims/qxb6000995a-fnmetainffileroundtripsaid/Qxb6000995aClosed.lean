/-
  The row's closed facts. Each becomes a lemma of its own ('as_aux_lemma'), so that the kernel gives its memory back behind it. The three that read the dump's head word go by its signs, written out: a string's 'toList' costs the kernel gigabytes at some 800 signs, while that the string is made of these signs costs it nothing.
-/
import Derived.Test.Qxb6000995aRows
import Derived.JoinedOf
import Derived.KernelRfl
namespace Go.Proofs.Qxb6000995a

theorem and_mk {a b : Bool} (h : a = true) (k : b = true) : (a && b) = true := by rw [h, k]; rfl

/-- The signs of the dump's head word, by their numbers. -/
def signs : List Char := ([104, 97, 114, 110, 101, 115, 115, 32, 101, 50, 101, 97, 49, 54, 99, 57, 54, 99, 49, 99, 51, 53, 57, 101, 102, 49, 50, 98, 48, 51, 49, 51, 55, 53, 97, 56, 51, 97, 53, 52, 57, 98,
    97, 102, 53, 100, 100, 57, 98, 49, 50, 98, 55, 57, 102, 100, 50, 48, 98, 100, 55, 48, 52, 56, 52, 54, 102, 57, 102, 54, 53, 49, 32, 99, 117, 116, 32, 97, 116, 32, 101, 120, 97,
    109, 112, 108, 101, 46, 99, 111, 109, 47, 112, 97, 99, 107, 115, 101, 97, 108, 47, 112, 97, 99, 107, 115, 101, 97, 108, 47, 122, 122, 108, 97, 119, 115, 95, 114, 111, 111, 116, 95,
    98, 49, 46, 70, 110, 75, 101, 112, 116, 70, 111, 114, 83, 105, 103, 110, 97, 116, 117, 114, 101, 115, 67, 97, 115, 101, 66, 108, 105, 110, 100, 32, 101, 120, 97, 109, 112, 108,
    101, 46, 99, 111, 109, 47, 112, 97, 99, 107, 115, 101, 97, 108, 47, 112, 97, 99, 107, 115, 101, 97, 108, 47, 122, 122, 108, 97, 119, 115, 95, 114, 111, 111, 116, 95, 98, 49, 46,
    70, 110, 75, 101, 112, 116, 70, 111, 114, 83, 105, 103, 110, 97, 116, 117, 114, 101, 115, 69, 120, 116, 101, 110, 115, 105, 111, 110, 68, 101, 99, 105, 100, 101, 115, 32, 101, 120,
    97, 109, 112, 108, 101, 46, 99, 111, 109, 47, 112, 97, 99, 107, 115, 101, 97, 108, 47, 112, 97, 99, 107, 115, 101, 97, 108, 47, 122, 122, 108, 97, 119, 115, 95, 114, 111, 111, 116,
    95, 98, 49, 46, 70, 110, 77, 101, 116, 97, 73, 110, 102, 70, 105, 108, 101, 82, 111, 117, 110, 100, 84, 114, 105, 112, 32, 101, 120, 97, 109, 112, 108, 101, 46, 99, 111, 109, 47,
    112, 97, 99, 107, 115, 101, 97, 108, 47, 112, 97, 99, 107, 115, 101, 97, 108, 47, 122, 122, 108, 97, 119, 115, 95, 114, 111, 111, 116, 95, 98, 49, 46, 70, 110, 77, 101, 116, 97,
    73, 110, 102, 70, 105, 108, 101, 69, 120, 97, 99, 116, 83, 112, 101, 99, 32, 101, 120, 97, 109, 112, 108, 101, 46, 99, 111, 109, 47, 112, 97, 99, 107, 115, 101, 97, 108, 47, 112,
    97, 99, 107, 115, 101, 97, 108, 47, 122, 122, 108, 97, 119, 115, 95, 114, 111, 111, 116, 95, 98, 49, 46, 70, 110, 77, 101, 116, 97, 73, 110, 102, 70, 105, 108, 101, 67, 97, 115,
    101, 66, 108, 105, 110, 100] : List Nat).map Char.ofNat
theorem head_eq : Try.prog.initOrder = String.ofList signs := by kernel_rfl
theorem head_signs : Try.prog.initOrder.toList = signs := by rw [head_eq, String.toList_ofList]

theorem words_val : behindMainWord (wordsSigns signs) = "cut".toList :: (behindMainWord (wordsSigns signs)).tail := by kernel_rfl
theorem lifts_val (r : List (List Char)) : stripLifts liftWords ("cut".toList :: r) = ([], "cut".toList :: r) := by kernel_rfl
theorem may_val {P : Program} (h : P.initOrder.toList = signs) (h1 : P.laysLater = false) (h2 : P.bearsReflect = false) (h3 : P.doorFits [] = true) : P.mayEnter = true := by
  unfold Program.mayEnter
  rw [h, words_val]
  dsimp only
  rw [lifts_val]
  dsimp only
  rw [h1, h2, h3]
  kernel_rfl
theorem lifts_none {P : Program} (h : P.initOrder.toList = signs) : P.liftsFinal = false := by
  unfold Program.liftsFinal Program.headLifts
  rw [h]
  kernel_rfl
theorem make_val {P : Program} (h : P.initOrder.toList = signs) : P.make = some Make.cut := by
  unfold Program.make
  rw [h]
  kernel_rfl

set_option maxHeartbeats 20000000 in
theorem closed : joinedFacts Try.prog 5 Try.f5 Rows.fnMetaInfFileRoundTripSpec Rows.fnMetaInfFileRoundTripRow = true := by
  unfold joinedFacts
  refine and_mk (and_mk (and_mk (and_mk (and_mk (and_mk (and_mk (and_mk (and_mk (and_mk (and_mk (and_mk (and_mk (and_mk (and_mk (and_mk (and_mk (and_mk (and_mk (and_mk (and_mk (and_mk (and_mk (and_mk (and_mk (and_mk (and_mk (and_mk (and_mk (and_mk (and_mk ?k1 ?k2) ?k3) ?k4) ?k5) ?k6) ?k7) ?k8) ?k9) ?k10) ?k11) ?k12) ?k13) ?k14) ?k15) ?k16) ?k17) ?k18) ?k19) ?k20) ?k21) ?k22) ?k23) ?k24) ?k25) ?k26) ?k27) ?k28) ?k29) ?k30) ?k31) ?k32
  case k26 => exact may_val head_signs (by as_aux_lemma => kernel_rfl) (by as_aux_lemma => kernel_rfl) (by as_aux_lemma => kernel_rfl)
  case k27 => rw [lifts_none head_signs]; as_aux_lemma => kernel_rfl
  case k28 => rw [make_val head_signs]; as_aux_lemma => kernel_rfl
  all_goals (as_aux_lemma => kernel_rfl)
end Go.Proofs.Qxb6000995a
