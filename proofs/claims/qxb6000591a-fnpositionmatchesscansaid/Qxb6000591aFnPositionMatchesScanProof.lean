/-
  The proof of 'Rows.FnPositionMatchesScanSaid'. The frame ('lifted', 'over', 'proved') was written by the kit's proof-skeleton.mjs for this function; the walk is this seat's own work.
-/
import Derived.Test.Qxb6000591aRows
import Derived.WalkKit
import Derived.ProofKit
import Derived.OpenShut
import Derived.ShutString
import Derived.ChangeOld
import Derived.Below
import Derived.Test.Qxb6000591aBase
import Derived.Test.Qxb6000591aClosed
namespace Go.Proofs.Qxb6000591a.fnPositionMatchesScan
open Go.ChangeShapes Go.WideShapes Go.ChangeAt Go.RowKit
open Go.ChangeMaps (open_string shut_string)
open Pl
set_option linter.unusedVariables false

theorem own : ownKnob Try.prog.godebug = none := by kernel_rfl
theorem laidOut : laidOutB Try.prog = true := by kernel_rfl

/-- WHAT THE WALK IS TOLD OF A SLICE OF INTEGERS THAT CAME IN: it is nil; or it leads to a row of 'cap' cells, the numbers 'zs' (the first 'len' are its elements, the rest its spare room), each fitting its kind. -/
def IsRow (k : IntKind) (w : World) (a : Option Addr) (len cap : Nat) (zs : List Int) : Prop :=
  (a = none ∧ len = 0 ∧ cap = 0 ∧ zs = []) ∨
  ∃ x, a = some x ∧ len ≤ cap ∧ cap ≤ maxLen ∧ zs.length = cap ∧ (∀ i, i < zs.length → w.cell? (x.add i) = some (.int k (zs.getD i 0))) ∧ ∀ n ∈ zs, (Lit.int k n).wf = true

/-! ### STEP 1: THE WALK -/
theorem zz_yes (a : Option Addr) (n c : Nat) (o : Int) (w : World) (hn : n ≤ 1048576) :
    Calls Try.prog 12 #[.slice a n c, .int .i64 o] w fun e w' => e = .returned (.bool true) ∧ w' = w := by
  go_enter Try.func12, Try.ntmps12
  go_wp2
  go_ret
  exact ⟨rfl, rfl⟩
theorem zz_no (a : Option Addr) (n c : Nat) (o : Int) (w : World) (hn : ¬ n ≤ 1048576) :
    Calls Try.prog 12 #[.slice a n c, .int .i64 o] w fun e w' => e = .returned (.bool false) ∧ w' = w := by
  go_enter Try.func12, Try.ntmps12
  go_wp2
  go_ret
  exact ⟨rfl, rfl⟩

theorem walk_long (a : Option Addr) (n c : Nat) (o : Int) (w : World) (hn : ¬ n ≤ 1048576) :
    Calls Try.prog 5 #[.slice a n c, .int .i64 o] w fun e w' => e = .returned (.bool true) ∧ Below w.heap.size w w' := by
  have hz := zz_no a n c o w hn
  go_enter Try.func5, Try.ntmps5
  go_wp2_with (go_at_call 12; refine hz.mono ?_; rintro e w' ⟨rfl, rfl⟩)
  go_ret
  exact ⟨rfl, Below.refl _ _⟩

theorem clamp (n : Nat) (o : Int) : ∃ k : Nat, k ≤ n ∧ min (max o 0) (n : Int) = (k : Int) ∧ (o < 0 → k = 0) ∧ ((n : Int) < o → k = n) ∧ (0 ≤ o → o ≤ n → o = k) :=
  ⟨(min (max o 0) (n : Int)).toNat, by omega, by omega, by omega, by omega, by omega⟩

set_option maxHeartbeats 1000000 in
theorem walk_some (a : Addr) (n c : Nat) (xs : List Int) (o : Int) (w : World) (hn : n ≤ 1048576) (hxl : xs.length = n) (hb : ∀ x ∈ xs, 0 ≤ x ∧ x < 256)
    (hc : ∀ i, i < n → w.cell? (a.add i) = some (.int .u8 (xs.getD i 0))) :
    Calls Try.prog 5 #[.slice (some a) n c, .int .i64 o] w fun e w' => e = .returned (.bool true) ∧ Below w.heap.size w w' := by
  have hz := zz_yes (some a) n c o w hn
  have hcp := copy_any a n c xs w hn hc
  clear hc
  obtain ⟨k, hkn, hk, k1, k2, k3⟩ := clamp n o
  have HK : Hid (min (max o 0) (n : Int) = (k : Int)) := hk
  have HX : Hid (xs.length = n) := hxl
  have HB : Hid (∀ x ∈ xs, 0 ≤ x ∧ x < 256) := hb
  clear hk hxl hb
  have hcase : (o < 0 ∧ (k : Int) ≤ 0) ∨ (0 ≤ o ∧ (n : Int) < o ∧ (n : Int) ≤ k) ∨ (0 ≤ o ∧ o ≤ n ∧ o ≤ k ∧ (k : Int) ≤ o) := by omega
  clear k1 k2 k3
  rcases hcase with ⟨c1, c2⟩ | ⟨c1, c2, c3⟩ | ⟨c1, c2, c3, c4⟩
  all_goals
    go_enter Try.func5, Try.ntmps5
    go_wp2_with (first | (go_at_call 12; refine hz.mono ?_; rintro e w' ⟨rfl, hw⟩; have hw := hw.symm; subst hw) | (go_at_call 13; refine hcp.mono ?_; rintro e w1 ⟨rfl, hc1, hs1, hb1⟩))
    go_loop [7, 8, 9] (fun l cc i => ∃ j : Nat, j ≤ k ∧ i = .int .i64 j ∧ l = .int .i64 ((cnt xs j : Int) + 1) ∧ cc = .int .i64 ((j : Int) - last xs j)) (fun _ _ i => k - (intOf i).toNat)
    case atStart => exact ⟨0, Nat.zero_le _, rfl, rfl, rfl⟩
    case round =>
      obtain ⟨j, hj, rfl, rfl, rfl⟩ := hrel
      have hcl := cnt_le xs j
      have hlb := last_bd xs j
      by_cases hlt : j < k
      · have hcj := hc1 j (by omega)
        by_cases hhit : xs.getD j 0 = 10
        · have H1 : Hid (cnt xs (j + 1) = cnt xs j + 1) := cnt_hit xs j hhit
          have H2 : Hid (last xs (j + 1) = j) := last_hit xs j hhit
          have hh : (xs[j]?.getD 0 == 10) = true := by simpa using hhit
          clear hhit
          go_wp2
          all_goals
            go_round
            case rel => exact ⟨j + 1, by omega, by go_num, by rw [H1.out]; go_num, by rw [H2.out]; go_num⟩
            case measure => simp [intOf]; omega
        · have H1 : Hid (cnt xs (j + 1) = cnt xs j) := cnt_miss xs j hhit
          have H2 : Hid (last xs (j + 1) = last xs j) := last_miss xs j hhit
          have hh : (xs[j]?.getD 0 == 10) = false := by simpa using hhit
          clear hhit
          go_wp2
          all_goals
            go_round
            case rel => exact ⟨j + 1, by omega, by go_num, by rw [H1.out], by rw [H2.out]; go_num⟩
            case measure => simp [intOf]; omega
      · have hjk : j = k := by omega
        subst hjk
        have hp := zzposition_any w.heap.size n n j xs o w1 hn (Nat.le_refl _) HX.out HB.out (by omega) HK.out hc1
        go_wp2_with (go_at_call 14; refine hp.mono ?_; rintro e w2 ⟨rfl, hb2⟩)
        go_ret
        exact ⟨rfl, hb1.trans (hb2.mono (by omega))⟩

set_option maxHeartbeats 1000000 in
theorem walk_nil (o : Int) (w : World) :
    Calls Try.prog 5 #[.slice none 0 0, .int .i64 o] w fun e w' => e = .returned (.bool true) ∧ Below w.heap.size w w' := by
  have hz := zz_yes none 0 0 o w (by omega)
  have hcp := copy_nil w
  have hp := zzposition_nil o w (by omega)
  rcases (show (o < 0) ∨ (0 ≤ o ∧ 0 < o) ∨ (0 ≤ o ∧ o ≤ 0) by omega) with c1 | ⟨c1, c2⟩ | ⟨c1, c2⟩
  all_goals
    go_enter Try.func5, Try.ntmps5
    go_wp2_with (first | (go_at_call 12; refine hz.mono ?_; rintro e w' ⟨rfl, hw⟩; have hw := hw.symm; subst hw) | (go_at_call 13; refine hcp.mono ?_; rintro e w' ⟨rfl, hw⟩; have hw := hw.symm; subst hw))
    refine wp_loop_rounds 1 ?_
    rw [rounds_succ]
    go_wp2_with (go_at_call 14; refine hp.mono ?_; rintro e w2 ⟨rfl, hb2⟩)
    go_ret
    exact ⟨rfl, hb2⟩

theorem byte_bd {x : Int} (h : (Lit.int .u8 x).wf = true) : 0 ≤ x ∧ x < 256 := by
  have h1 : IntKind.u8.min = 0 := rfl
  have h2 : IntKind.u8.max = 255 := rfl
  simp only [Lit.wf, Bool.and_eq_true, decide_eq_true_eq] at h
  omega

theorem walk (a0 : Option Addr) (len0 cap0 : Nat) (z0 : List Int) (a1 : Int) (w : World) (w0 : IsRow .u8 w a0 len0 cap0 z0) (w1 : (Lit.int .i64 a1).wf = true) :
    Calls Try.prog 5 #[.slice a0 len0 cap0, .int .i64 a1] w fun e w' => e = .returned (.bool true) ∧ Below w.heap.size w w' := by
  by_cases hn : len0 ≤ 1048576
  · rcases w0 with ⟨rfl, rfl, rfl, rfl⟩ | ⟨x, rfl, hlc, _, hz, hcell, hwf⟩
    · exact walk_nil a1 w
    · exact walk_some x len0 cap0 (z0.take len0) a1 w hn (by simp; omega) (fun y hy => byte_bd (hwf y (List.mem_of_mem_take hy)))
        (fun i hi => by rw [hcell i (by omega)]; simp [List.getD, hi])
  · exact walk_long a0 len0 cap0 a1 w hn

/-! ### THE ROW's STEP: WRITTEN OUT: LEAVE IT -/
set_option maxRecDepth 100000 in
theorem lifted (os : Os) (started : os.Started) (H : Type) (enc : TypeId × Value → H) :
    ReturnsInHanded {} Try.checked os 5 .any (Rows.fnPositionMatchesScanSpec.pre6 enc Try.prog Try.f5 Rows.fnPositionMatchesScanRow.domain false) (Rows.fnPositionMatchesScanSpec.post enc Try.prog Try.f5 false true false false) := by
  refine returnsInHanded_of_change (C := Try.checked) own started (by kernel_rfl) Try.func5
    (ChangeSpec.witness6 (enc := enc) (C := Try.checked) false ⟨#[], #[.slice none 0 0, .int .i64 0], []⟩ 8 (by kernel_rfl) (by kernel_rfl) (by kernel_rfl) (by kernel_rfl)) ?_
  intro W base args ds gs before hval0 hW hcnd _
  have hval : ∀ (j : Nat) t v, Try.f5.params[j]? = some t → args[j]? = some v → Value.okWide Try.prog W .any base t v := hval0
  have hW' := hW
  obtain ⟨p, q, hA0, hV, rfl, hfz, hnd⟩ := hW
  have hA : DataW.TrodAll enc Try.prog W 0 (fun _ => true) true Try.f5.params.toList args.toList ds p := hA0
  rw [Try.params5] at hA hval
  obtain ⟨v0, vs0, d0, ds0, p0, q0, hargs, rfl, rfl, h0, r0⟩ := trodAll_cons hA
  obtain ⟨v1, vs1, d1, ds1, p1, q1, rfl, rfl, rfl, h1, r1⟩ := trodAll_cons r0
  obtain ⟨rfl, rfl, rfl⟩ := trodAll_nil r1
  obtain rfl : args = #[v0, v1] := by cases args; simp_all
  obtain ⟨rfl, rfl⟩ := trodVars_none hV
  obtain ⟨a0, len0, cap0, rfl⟩ := okWide_slice Try.underlying24 (hval 0 24 v0 rfl rfl)
  have k0 := h0
  have lt0 : ∀ x ∈ p0, x.block < W.heap.size := by obtain ⟨m, hm⟩ := k0; exact DataW.trod_lt m _ _ _ hm
  obtain ⟨z0, w0⟩ : ∃ zs, IsRow .u8 W a0 len0 cap0 zs := by
    obtain ⟨fuel, hf⟩ := h0
    rcases open_ints Try.underlying24 Try.underlying5 (by kernel_rfl) hf with ⟨hcs, _⟩ | ⟨x, l, c, zs, hcs, _, hl, hm, hz, _, hcell, hwz⟩
    · simp [Value.cells] at hcs
      obtain ⟨rfl, rfl, rfl⟩ := hcs
      exact ⟨[], .inl ⟨rfl, rfl, rfl, rfl⟩⟩
    · simp [Value.cells] at hcs
      obtain ⟨rfl, rfl, rfl⟩ := hcs
      exact ⟨zs, .inr ⟨_, rfl, hl, hm, by simpa using hz, hcell, hwz⟩⟩
  obtain ⟨a1, rfl, rfl, rfl, w1⟩ := open_int Try.underlying2 (hval 1 2 v1 rfl rfl) h1
  clear hA0 hval0
  refine (walk a0 len0 cap0 z0 a1 W w0 w1).mono fun e W' ⟨he, bel⟩ => ?_
  subst he
  exact ⟨_, rfl, _, _, _, [], _, [], hW', trodAll_mk1 (shut_bool Try.underlying4 _), (trodAll_cons_mk (Below.trod laidOut (by kernel_rfl) (of_decide_eq_true (by kernel_rfl)) k0 bel lt0) (trodAll_cons_mk (shut_int Try.underlying2 w1) trodAll_mk0)), rfl, bel.frame _, fun h => by cases h⟩

theorem over : Rows.fnPositionMatchesScanRow.holds Try.pinned (OpenSpec.ofChange Rows.fnPositionMatchesScanSpec) :=
  OpenClaim.holds_of_wide 5 Try.f5 rfl rfl rfl rfl rfl rfl rfl ⟨rfl, rfl, rfl, rfl, rfl⟩ rfl rfl rfl rfl rfl (by kernel_rfl) Try.func5 closedScan
    (of_decide_eq_true (by kernel_rfl)) (by unfold Func.isWrapper; first | (rw [if_pos (by decide +kernel)]; kernel_rfl) | (rw [if_neg (by decide +kernel)]; exact ⟨rfl, rfl⟩))
    (fun os started H enc _ => lifted os started H enc)

/-- ████ THE STATEMENT ████ -/
theorem proved : Rows.FnPositionMatchesScanSaid := over
end Go.Proofs.Qxb6000591a.fnPositionMatchesScan
