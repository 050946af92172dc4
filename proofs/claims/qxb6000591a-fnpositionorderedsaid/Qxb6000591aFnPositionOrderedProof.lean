/-
  The proof of 'Rows.FnPositionOrderedSaid'. The frame ('lifted', 'over', 'proved') was written by the kit's proof-skeleton.mjs for this function; the walk is this seat's own work.
-/
import Derived.Test.Qxb6000591aRows
import Derived.WalkKit
import Derived.ProofKit
import Derived.OpenShut
import Derived.ShutString
import Derived.ChangeOld
import Derived.Below
import Derived.Test.Qxb6000591aBase
import Derived.Test.Qxb6000591aClosed
namespace Go.Proofs.Qxb6000591a.fnPositionOrdered
open Go.ChangeShapes Go.WideShapes Go.ChangeAt Go.RowKit
open Go.ChangeMaps (open_string shut_string)
open Pl
set_option linter.unusedVariables false

theorem own : ownKnob Try.prog.godebug = none := by kernel_rfl
theorem laidOut : laidOutB Try.prog = true := by kernel_rfl

/-- WHAT THE WALK IS TOLD OF A SLICE OF INTEGERS THAT CAME IN: it is nil; or it leads to a row of 'cap' cells, the numbers 'zs' (the first 'len' are its elements, the rest its spare room), each fitting its kind. -/
def IsRow (k : IntKind) (w : World) (a : Option Addr) (len cap : Nat) (zs : List Int) : Prop :=
  (a = none ∧ len = 0 ∧ cap = 0 ∧ zs = []) ∨
  ∃ x, a = some x ∧ len ≤ cap ∧ cap ≤ maxLen ∧ zs.length = cap ∧ (∀ i, i < zs.length → w.cell? (x.add i) = some (.int k (zs.getD i 0))) ∧ ∀ n ∈ zs, (Lit.int k n).wf = true

/-! ### STEP 1: THE WALK -/
theorem zz_yes (a : Option Addr) (n c : Nat) (o1 o2 : Int) (w : World) (hn : n ≤ 1048576) :
    Calls Try.prog 16 #[.slice a n c, .int .i64 o1, .int .i64 o2] w fun e w' => e = .returned (.bool true) ∧ w' = w := by
  go_enter Try.func16, Try.ntmps16
  go_wp2
  go_ret
  exact ⟨rfl, rfl⟩
theorem zz_no (a : Option Addr) (n c : Nat) (o1 o2 : Int) (w : World) (hn : ¬ n ≤ 1048576) :
    Calls Try.prog 16 #[.slice a n c, .int .i64 o1, .int .i64 o2] w fun e w' => e = .returned (.bool false) ∧ w' = w := by
  go_enter Try.func16, Try.ntmps16
  go_wp2
  go_ret
  exact ⟨rfl, rfl⟩

theorem walk_long (a : Option Addr) (n c : Nat) (o1 o2 : Int) (w : World) (hn : ¬ n ≤ 1048576) :
    Calls Try.prog 7 #[.slice a n c, .int .i64 o1, .int .i64 o2] w fun e w' => e = .returned (.bool true) ∧ Below w.heap.size w w' := by
  have hz := zz_no a n c o1 o2 w hn
  go_enter Try.func7, Try.ntmps7
  go_wp2_with (go_at_call 16; refine hz.mono ?_; rintro e w' ⟨rfl, hw⟩; have hw := hw.symm; subst hw)
  go_ret
  exact ⟨rfl, Below.refl _ _⟩

set_option maxHeartbeats 1000000 in
/-- An offset out of the data: true at once. -/
theorem walk_out (a : Option Addr) (n c : Nat) (o1 o2 : Int) (w : World) (hn : n ≤ 1048576) (h : o1 < 0 ∨ o2 < 0 ∨ (n : Int) < o1 ∨ (n : Int) < o2) :
    Calls Try.prog 7 #[.slice a n c, .int .i64 o1, .int .i64 o2] w fun e w' => e = .returned (.bool true) ∧ Below w.heap.size w w' := by
  have hz := zz_yes a n c o1 o2 w hn
  have hcase : (o1 ≤ o2 ∧ o1 < 0) ∨ (o1 ≤ o2 ∧ 0 ≤ o1 ∧ (n : Int) < o2) ∨ (o2 < o1 ∧ o2 < 0) ∨ (o2 < o1 ∧ 0 ≤ o2 ∧ (n : Int) < o1) := by omega
  clear h
  rcases hcase with ⟨c1, c2⟩ | ⟨c1, c2, c3⟩ | ⟨c1, c2⟩ | ⟨c1, c2, c3⟩
  all_goals
    go_enter Try.func7, Try.ntmps7
    go_wp2_with (go_at_call 16; refine hz.mono ?_; rintro e w' ⟨rfl, hw⟩; have hw := hw.symm; subst hw)
    go_ret
    exact ⟨rfl, Below.refl _ _⟩

theorem ret_bool {b : Bool} (h : b = true) : Ending.returned (.bool b) = .returned (.bool true) := by rw [h]

set_option maxHeartbeats 2000000 in
theorem walk_some (a : Addr) (n c p q : Nat) (xs : List Int) (o1 o2 : Int) (w : World) (hn : n ≤ 1048576) (hxl : xs.length = n) (hb : ∀ x ∈ xs, 0 ≤ x ∧ x < 256) (hpq : p ≤ q) (hqn : q ≤ n)
    (ho : (o1 = p ∧ o2 = q) ∨ (p < q ∧ o1 = q ∧ o2 = p))
    (hc : ∀ i, i < n → w.cell? (a.add i) = some (.int .u8 (xs.getD i 0))) :
    Calls Try.prog 7 #[.slice (some a) n c, .int .i64 o1, .int .i64 o2] w fun e w' => e = .returned (.bool true) ∧ Below w.heap.size w w' := by
  have hz := zz_yes (some a) n c o1 o2 w hn
  have hcp := copy_any a n c xs w hn hc
  have HP : Hid (min (max (p : Int) 0) (n : Int) = (p : Int)) := by show _ = _; omega
  have HQ : Hid (min (max (q : Int) 0) (n : Int) = (q : Int)) := by show _ = _; omega
  have HX : Hid (xs.length = n) := hxl
  have HB : Hid (∀ x ∈ xs, 0 ≤ x ∧ x < 256) := hb
  clear hc hxl hb
  have hp1 := cnt_le xs p
  have hp2 := last_bd xs p
  have hq1 := cnt_le xs q
  have hq2 := last_bd xs q
  have hq3 : cnt xs p ≤ cnt xs q := cnt_mono' hpq
  have hq4 : (cnt xs q ≤ cnt xs p ∧ last xs q ≤ last xs p ∧ last xs p ≤ last xs q) ∨ (cnt xs p < cnt xs q ∧ (p : Int) ≤ last xs q) := by
    by_cases h : cnt xs q = cnt xs p
    · have := last_same hpq h; omega
    · have := last_ge hpq h; omega
  have HF : Hid ((cnt xs q ≤ cnt xs p ∧ last xs q ≤ last xs p ∧ last xs p ≤ last xs q) ∨ (cnt xs p < cnt xs q ∧ (p : Int) ≤ last xs q)) := hq4
  clear hq4
  rcases ho with ⟨rfl, rfl⟩ | ⟨hlt, rfl, rfl⟩
  all_goals
    go_enter Try.func7, Try.ntmps7
    go_wp2_with (first | (go_at_call 16; refine hz.mono ?_; rintro e w' ⟨rfl, hw⟩; have hw := hw.symm; subst hw) | (go_at_call 13; refine hcp.mono ?_; rintro e w1 ⟨rfl, hc1, hs1, hb1⟩))
    refine (zzposition_any w.heap.size n n p xs p w1 hn (Nat.le_refl _) HX.out HB.out (by omega) HP.out hc1).mono ?_
    rintro e w2 ⟨rfl, hb2⟩
    have hc2 : ∀ i, i < n → w2.cell? ⟨w.heap.size, i, none⟩ = some (.int .u8 (xs.getD i 0)) := fun i hi => (hb2.cell (by exact hs1)).trans (hc1 i hi)
    have hs2 : w.heap.size < w2.heap.size := by have := hb2.size; omega
    have hb2' : Below w.heap.size w w2 := hb1.trans (hb2.mono (by omega))
    clear hb2 hb1 hc1 hs1
    go_wp2_with fail
    refine (zzposition_any w.heap.size n n q xs q w2 hn (Nat.le_refl _) HX.out HB.out (by omega) HQ.out hc2).mono ?_
    rintro e w3 ⟨rfl, hb3⟩
    have hc3 : ∀ i, i < n → w3.cell? ⟨w.heap.size, i, none⟩ = some (.int .u8 (xs.getD i 0)) := fun i hi => (hb3.cell (by exact hs2)).trans (hc2 i hi)
    have hb3' : Below w.heap.size w w3 := hb2'.trans (hb3.mono (by omega))
    clear hb3 hb2' hc2 hs2 hz hcp
    go_wp2
    go_loop [12, 13] (fun l i => ∃ j : Nat, p ≤ j ∧ j ≤ q ∧ i = .int .i64 j ∧ l = .int .i64 ((cnt xs j : Int) - cnt xs p)) (fun _ i => q - (intOf i).toNat)
    case atStart => exact ⟨p, Nat.le_refl _, hpq, rfl, by rw [Int.sub_self]⟩
    case round =>
      obtain ⟨j, hj0, hj, rfl, rfl⟩ := hrel
      have hcl := cnt_le xs j
      have hcm : cnt xs p ≤ cnt xs j := cnt_mono' hj0
      by_cases hlt' : j < q
      · have hcj := hc3 j (by omega)
        by_cases hhit : xs.getD j 0 = 10
        · have H1 : Hid (cnt xs (j + 1) = cnt xs j + 1) := cnt_hit xs j hhit
          have hh : (xs[j]?.getD 0 == 10) = true := by simpa using hhit
          clear hhit
          go_wp2
          go_round
          case rel => exact ⟨j + 1, by omega, by omega, by go_num, by rw [H1.out]; go_num⟩
          case measure => simp [intOf]; omega
        · have H1 : Hid (cnt xs (j + 1) = cnt xs j) := cnt_miss xs j hhit
          have hh : (xs[j]?.getD 0 == 10) = false := by simpa using hhit
          clear hhit
          go_wp2
          go_round
          case rel => exact ⟨j + 1, by omega, by omega, by go_num, by rw [H1.out]⟩
          case measure => simp [intOf]; omega
      · have hjk : j = q := by omega
        subst hjk
        rcases HF.out with ⟨f1, f2, f3⟩ | ⟨f1, f2⟩
        all_goals
          go_wp2
          go_ret
          exact ⟨ret_bool (by first | rfl | (rw [beq_iff_eq]; omega)), hb3'⟩

set_option maxHeartbeats 1000000 in
theorem walk_nil (w : World) :
    Calls Try.prog 7 #[.slice none 0 0, .int .i64 0, .int .i64 0] w fun e w' => e = .returned (.bool true) ∧ Below w.heap.size w w' := by
  have hz := zz_yes none 0 0 0 0 w (by omega)
  have hcp := copy_nil w
  go_enter Try.func7, Try.ntmps7
  go_wp2_with (first | (go_at_call 16; refine hz.mono ?_; rintro e w' ⟨rfl, hw⟩; have hw := hw.symm; subst hw) | (go_at_call 13; refine hcp.mono ?_; rintro e w' ⟨rfl, hw⟩; have hw := hw.symm; subst hw))
  refine (zzposition_nil 0 w (by omega)).mono ?_
  rintro e w2 ⟨rfl, hb2⟩
  go_wp2_with fail
  refine (zzposition_nil 0 w2 (by omega)).mono ?_
  rintro e w3 ⟨rfl, hb3⟩
  have hb : Below w.heap.size w w3 := hb2.trans (hb3.mono (by have := hb2.size; omega))
  clear hb2 hb3 hz hcp
  go_wp2
  refine wp_loop_rounds 1 ?_
  rw [rounds_succ]
  go_wp2
  go_ret
  exact ⟨rfl, hb⟩

theorem byte_bd {x : Int} (h : (Lit.int .u8 x).wf = true) : 0 ≤ x ∧ x < 256 := by
  have h1 : IntKind.u8.min = 0 := rfl
  have h2 : IntKind.u8.max = 255 := rfl
  simp only [Lit.wf, Bool.and_eq_true, decide_eq_true_eq] at h
  omega

theorem walk (a0 : Option Addr) (len0 cap0 : Nat) (z0 : List Int) (a1 : Int) (a2 : Int) (w : World) (w0 : IsRow .u8 w a0 len0 cap0 z0) (w1 : (Lit.int .i64 a1).wf = true) (w2 : (Lit.int .i64 a2).wf = true) :
    Calls Try.prog 7 #[.slice a0 len0 cap0, .int .i64 a1, .int .i64 a2] w fun e w' => e = .returned (.bool true) ∧ Below w.heap.size w w' := by
  by_cases hn : len0 ≤ 1048576
  · by_cases ho : a1 < 0 ∨ a2 < 0 ∨ (len0 : Int) < a1 ∨ (len0 : Int) < a2
    · exact walk_out a0 len0 cap0 a1 a2 w hn ho
    · rcases w0 with ⟨rfl, rfl, rfl, rfl⟩ | ⟨x, rfl, hlc, _, hz, hcell, hwf⟩
      · obtain rfl : a1 = 0 := by omega
        obtain rfl : a2 = 0 := by omega
        exact walk_nil w
      · refine walk_some x len0 cap0 (min a1 a2).toNat (max a1 a2).toNat (z0.take len0) a1 a2 w hn (by simp; omega) (fun y hy => byte_bd (hwf y (List.mem_of_mem_take hy))) (by omega) (by omega) (by omega)
          (fun i hi => by rw [hcell i (by omega)]; simp [List.getD, hi])
  · exact walk_long a0 len0 cap0 a1 a2 w hn

/-! ### THE ROW's STEP: WRITTEN OUT: LEAVE IT -/
set_option maxRecDepth 100000 in
theorem lifted (os : Os) (started : os.Started) (H : Type) (enc : TypeId × Value → H) :
    ReturnsInHanded {} Try.checked os 7 .any (Rows.fnPositionOrderedSpec.pre6 enc Try.prog Try.f7 Rows.fnPositionOrderedRow.domain false) (Rows.fnPositionOrderedSpec.post enc Try.prog Try.f7 false true false false) := by
  refine returnsInHanded_of_change (C := Try.checked) own started (by kernel_rfl) Try.func7
    (ChangeSpec.witness6 (enc := enc) (C := Try.checked) false ⟨#[], #[.slice none 0 0, .int .i64 0, .int .i64 0], []⟩ 8 (by kernel_rfl) (by kernel_rfl) (by kernel_rfl) (by kernel_rfl)) ?_
  intro W base args ds gs before hval0 hW hcnd _
  have hval : ∀ (j : Nat) t v, Try.f7.params[j]? = some t → args[j]? = some v → Value.okWide Try.prog W .any base t v := hval0
  have hW' := hW
  obtain ⟨p, q, hA0, hV, rfl, hfz, hnd⟩ := hW
  have hA : DataW.TrodAll enc Try.prog W 0 (fun _ => true) true Try.f7.params.toList args.toList ds p := hA0
  rw [Try.params7] at hA hval
  obtain ⟨v0, vs0, d0, ds0, p0, q0, hargs, rfl, rfl, h0, r0⟩ := trodAll_cons hA
  obtain ⟨v1, vs1, d1, ds1, p1, q1, rfl, rfl, rfl, h1, r1⟩ := trodAll_cons r0
  obtain ⟨v2, vs2, d2, ds2, p2, q2, rfl, rfl, rfl, h2, r2⟩ := trodAll_cons r1
  obtain ⟨rfl, rfl, rfl⟩ := trodAll_nil r2
  obtain rfl : args = #[v0, v1, v2] := by cases args; simp_all
  obtain ⟨rfl, rfl⟩ := trodVars_none hV
  obtain ⟨a0, len0, cap0, rfl⟩ := okWide_slice Try.underlying24 (hval 0 24 v0 rfl rfl)
  have k0 := h0
  have lt0 : ∀ x ∈ p0, x.block < W.heap.size := by obtain ⟨m, hm⟩ := k0; exact DataW.trod_lt m _ _ _ hm
  obtain ⟨z0, w0⟩ : ∃ zs, IsRow .u8 W a0 len0 cap0 zs := by
    obtain ⟨fuel, hf⟩ := h0
    rcases open_ints Try.underlying24 Try.underlying5 (by kernel_rfl) hf with ⟨hcs, _⟩ | ⟨x, l, c, zs, hcs, _, hl, hm, hz, _, hcell, hwz⟩
    · simp [Value.cells] at hcs
      obtain ⟨rfl, rfl, rfl⟩ := hcs
      exact ⟨[], .inl ⟨rfl, rfl, rfl, rfl⟩⟩
    · simp [Value.cells] at hcs
      obtain ⟨rfl, rfl, rfl⟩ := hcs
      exact ⟨zs, .inr ⟨_, rfl, hl, hm, by simpa using hz, hcell, hwz⟩⟩
  obtain ⟨a1, rfl, rfl, rfl, w1⟩ := open_int Try.underlying2 (hval 1 2 v1 rfl rfl) h1
  obtain ⟨a2, rfl, rfl, rfl, w2⟩ := open_int Try.underlying2 (hval 2 2 v2 rfl rfl) h2
  clear hA0 hval0
  refine (walk a0 len0 cap0 z0 a1 a2 W w0 w1 w2).mono fun e W' ⟨he, bel⟩ => ?_
  subst he
  exact ⟨_, rfl, _, _, _, [], _, [], hW', trodAll_mk1 (shut_bool Try.underlying4 _), (trodAll_cons_mk (Below.trod laidOut (by kernel_rfl) (of_decide_eq_true (by kernel_rfl)) k0 bel lt0) (trodAll_cons_mk (shut_int Try.underlying2 w1) (trodAll_cons_mk (shut_int Try.underlying2 w2) trodAll_mk0))), rfl, bel.frame _, fun h => by cases h⟩

theorem over : Rows.fnPositionOrderedRow.holds Try.pinned (OpenSpec.ofChange Rows.fnPositionOrderedSpec) :=
  OpenClaim.holds_of_wide 7 Try.f7 rfl rfl rfl rfl rfl rfl rfl ⟨rfl, rfl, rfl, rfl, rfl⟩ rfl rfl rfl rfl rfl (by kernel_rfl) Try.func7 closedOrdered
    (of_decide_eq_true (by kernel_rfl)) (by unfold Func.isWrapper; first | (rw [if_pos (by decide +kernel)]; kernel_rfl) | (rw [if_neg (by decide +kernel)]; exact ⟨rfl, rfl⟩))
    (fun os started H enc _ => lifted os started H enc)

/-- ████ THE STATEMENT ████ -/
theorem proved : Rows.FnPositionOrderedSaid := over
end Go.Proofs.Qxb6000591a.fnPositionOrdered
