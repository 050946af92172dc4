/-
  The row's closed facts. Each becomes a lemma of its own ('as_aux_lemma'), so that the kernel gives its memory back behind it: as one fact they fall at the lid of 10 GB.
-/
import Derived.Test.Qxb6000759aRows
import Derived.JoinedOf
import Derived.KernelRfl
namespace Go.Proofs.Qxb6000759a

theorem and_mk {a b : Bool} (h : a = true) (k : b = true) : (a && b) = true := by rw [h, k]; rfl

set_option maxHeartbeats 20000000 in
theorem closed : joinedFacts Try.prog 9 Try.f9 Rows.fnValueEndSpansEncodedValueSpec Rows.fnValueEndSpansEncodedValueRow = true := by
  unfold joinedFacts
  refine and_mk (and_mk (and_mk (and_mk (and_mk (and_mk (and_mk (and_mk (and_mk (and_mk (and_mk (and_mk (and_mk (and_mk (and_mk (and_mk (and_mk (and_mk (and_mk (and_mk (and_mk (and_mk (and_mk (and_mk (and_mk (and_mk (and_mk (and_mk (and_mk (and_mk (and_mk ?k1 ?k2) ?k3) ?k4) ?k5) ?k6) ?k7) ?k8) ?k9) ?k10) ?k11) ?k12) ?k13) ?k14) ?k15) ?k16) ?k17) ?k18) ?k19) ?k20) ?k21) ?k22) ?k23) ?k24) ?k25) ?k26) ?k27) ?k28) ?k29) ?k30) ?k31) ?k32
  all_goals (as_aux_lemma => kernel_rfl)
end Go.Proofs.Qxb6000759a
