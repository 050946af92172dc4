/-
  The proof of 'Rows.FnMetaInfFileRoundTripSaid'. The frame ('lifted', 'over', 'proved') was written by the kit's proof-skeleton.mjs for this function, its last row turned to 'Below' (the call makes memory of its own and writes there); the walk is this seat's own work.
-/
import Derived.Test.Qxb6000995aRows
import Derived.WalkKit
import Derived.ProofKit
import Derived.OpenShut
import Derived.ShutString
import Derived.ChangeOld
import Derived.Below
import Derived.Lib.SmallJoins
import Derived.Lib.Strings
import Derived.Test.Qxb6000995aBase
import Derived.Test.Qxb6000995aClosed
namespace Go.Proofs.Qxb6000995a.fnMetaInfFileRoundTrip
open Go.ChangeShapes Go.WideShapes Go.ChangeAt Go.RowKit
open Go.ChangeMaps (open_string shut_string)
set_option linter.unusedVariables false      -- a walk need not use every 'w<i>' (that an integer argument fits its kind)

theorem own : ownKnob Try.prog.godebug = none := by kernel_rfl

/-! ### STEP 1: THE WALK -/
theorem zz_yes (s : ByteArray) (b : Int) (w : World) (hn : s.size ≤ 1048576) :
    Calls Try.prog 16 #[.string s, .int .u8 b] w fun e w' => e = .returned (.bool true) ∧ w' = w := by
  go_enter Try.func16, Try.ntmps16
  go_wp2
  go_ret
  exact ⟨rfl, rfl⟩
theorem zz_no (s : ByteArray) (b : Int) (w : World) (hn : ¬ s.size ≤ 1048576) :
    Calls Try.prog 16 #[.string s, .int .u8 b] w fun e w' => e = .returned (.bool false) ∧ w' = w := by
  go_enter Try.func16, Try.ntmps16
  go_wp2
  go_ret
  exact ⟨rfl, rfl⟩

theorem walk_long (s : ByteArray) (b : Int) (w : World) (hn : ¬ s.size ≤ 1048576) :
    Calls Try.prog 5 #[.string s, .int .u8 b] w fun e w' => e = .returned (.bool true) ∧ Below w.heap.size w w' := by
  have hz := zz_no s b w hn
  go_enter Try.func5, Try.ntmps5
  go_wp2_with (go_at_call 16; refine hz.mono ?_; rintro e w' ⟨rfl, hw⟩; have hw := hw.symm; subst hw)
  go_ret
  exact ⟨rfl, Below.refl _ _⟩

theorem size_list (x : ByteArray) : x.data.toList.length = x.size := by rw [Array.length_toList]; rfl

/-- The path: the folder's name, a slash, the base. -/
theorem path_facts (t base : ByteArray) (ht : Fold t ⟨#[109, 101, 116, 97, 45, 105, 110, 102]⟩) :
    ∃ h : 8 < (t ++ ⟨#[47]⟩ ++ base).size, (t ++ ⟨#[47]⟩ ++ base).size = 9 + base.size ∧ ((t ++ ⟨#[47]⟩ ++ base)[8]'h).toNat = 47 ∧ (t ++ ⟨#[47]⟩ ++ base).extract 0 8 = t ∧ (t ++ ⟨#[47]⟩ ++ base).extract 9 (t ++ ⟨#[47]⟩ ++ base).size = base := by
  have hl : t.data.toList.length = 8 := by rw [size_list, ht.1]; rfl
  have hd : (t ++ ⟨#[47]⟩ ++ base).data.toList = t.data.toList ++ (47 :: base.data.toList) := by
    rw [Joins.data_append, Joins.data_append]; simp
  have hsz : (t ++ ⟨#[47]⟩ ++ base).size = 9 + base.size := by
    rw [← size_list, hd, List.length_append, List.length_cons, hl, size_list]; omega
  have h8 : 8 < (t ++ ⟨#[47]⟩ ++ base).size := by omega
  refine ⟨h8, hsz, ?_, ?_, ?_⟩
  · have e : (sb (t ++ ⟨#[47]⟩ ++ base)).getD 8 0 = 47 := by
      unfold sb
      rw [hd, List.map_append, List.map_cons]
      have hl' : (t.data.toList.map fun b => (b.toNat : Int)).length = 8 := by simpa using hl
      simp only [List.getD]
      rw [List.getElem?_append_right (by omega), hl']
      rfl
    rw [sb_get _ 8 h8] at e
    omega
  · apply bytes_inj
    rw [Lib.extract_data, hd, List.drop_zero, List.take_left' (by omega)]
  · apply bytes_inj
    rw [Lib.extract_data, hd]
    have e9 : (9 : Nat) = t.data.toList.length + 1 := by omega
    have e1 : (t.data.toList ++ 47 :: base.data.toList).drop 9 = base.data.toList := by
      rw [e9, ← List.drop_drop, List.drop_left]; rfl
    rw [e1, hsz]
    refine List.take_of_length_le ?_
    rw [size_list]
    omega

theorem fold_upper {t : ByteArray} (h : Fold t ⟨#[109, 101, 116, 97, 45, 105, 110, 102]⟩) : Fold t ⟨#[77, 69, 84, 65, 45, 73, 78, 70]⟩ := by
  refine ⟨h.1.trans rfl, fun j hj => ?_⟩
  have hj' : j < 8 := hj
  rw [h.2 j hj']
  rcases (show j = 0 ∨ j = 1 ∨ j = 2 ∨ j = 3 ∨ j = 4 ∨ j = 5 ∨ j = 6 ∨ j = 7 by omega) with rfl | rfl | rfl | rfl | rfl | rfl | rfl | rfl
  all_goals decide

theorem ret_bool {b : Bool} (h : b = true) : Ending.returned (.bool b) = .returned (.bool true) := by rw [h]

set_option maxHeartbeats 1000000 in
theorem walk_short (s : ByteArray) (b : Int) (w : World) (hn : s.size ≤ 1048576) :
    Calls Try.prog 5 #[.string s, .int .u8 b] w fun e w' => e = .returned (.bool true) ∧ Below w.heap.size w w' := by
  have hz := zz_yes s b w hn
  by_cases hn2 : s.size ≤ 65536
  · go_enter Try.func5, Try.ntmps5
    go_wp2_with (go_at_call 16; refine hz.mono ?_; rintro e w' ⟨rfl, hw⟩; have hw := hw.symm; subst hw)
    refine (has_any s w hn).mono ?_
    rintro e w' ⟨hw, hcase⟩
    have hw := hw.symm
    subst hw
    rcases hcase with rfl | ⟨rfl, hns⟩
    · go_wp2
      go_ret
      exact ⟨rfl, Below.refl _ _⟩
    · have HNS : Hid (NoSlash s) := hns
      clear hns
      go_wp2_with fail
      refine (cased_any ⟨#[109, 101, 116, 97, 45, 105, 110, 102]⟩ b w (by decide)).mono ?_
      rintro e w1 ⟨t, rfl, hf, hb1⟩
      have hts : t.size = 8 := hf.1
      obtain ⟨h8, hsz, h47, hx1, hx2⟩ := path_facts t s hf
      have hcon := zzmeta_any (t ++ ⟨#[47]⟩ ++ s) w1 (by omega) (by omega) h47 (by rw [hx1]; exact fold_upper hf) (by rw [hx2]; exact HNS.out)
      rw [hx2] at hcon
      clear hx1 hx2 h47 hsz h8 hf
      go_wp2_with (go_at_call 17; refine hcon.mono ?_; rintro e w2 ⟨rfl, hb2⟩)
      go_ret
      exact ⟨rfl, hb1.trans (hb2.mono hb1.size)⟩
  · go_enter Try.func5, Try.ntmps5
    go_wp2_with (go_at_call 16; refine hz.mono ?_; rintro e w' ⟨rfl, hw⟩; have hw := hw.symm; subst hw)
    go_ret
    exact ⟨rfl, Below.refl _ _⟩

theorem walk (a0 : ByteArray) (a1 : Int) (w0 : a0.size ≤ maxLen) (w1 : (Lit.int .u8 a1).wf = true) (w : World) :
    Calls Try.prog 5 #[.string a0, .int .u8 a1] w fun e w' => e = .returned (.bool true) ∧ Below w.heap.size w w' := by
  by_cases hn : a0.size ≤ 1048576
  · exact walk_short a0 a1 w hn
  · exact walk_long a0 a1 w hn

/-! ### THE ROW's STEP: WRITTEN OUT: LEAVE IT -/
set_option maxRecDepth 100000 in
theorem lifted (os : Os) (started : os.Started) (H : Type) (enc : TypeId × Value → H) :
    ReturnsInHanded {} Try.checked os 5 .any (Rows.fnMetaInfFileRoundTripSpec.pre6 enc Try.prog Try.f5 Rows.fnMetaInfFileRoundTripRow.domain false) (Rows.fnMetaInfFileRoundTripSpec.post enc Try.prog Try.f5 false true false false) := by
  refine returnsInHanded_of_change (C := Try.checked) own started (by kernel_rfl) Try.func5
    (ChangeSpec.witness6 (enc := enc) (C := Try.checked) false ⟨#[], #[.string ByteArray.empty, .int .u8 0], []⟩ 8 (by kernel_rfl) (by kernel_rfl) (by kernel_rfl) (by kernel_rfl)) ?_
  intro W base args ds gs before hval0 hW hcnd _
  have hval : ∀ (j : Nat) t v, Try.f5.params[j]? = some t → args[j]? = some v → Value.okWide Try.prog W .any base t v := hval0
  have hW' := hW
  obtain ⟨p, q, hA0, hV, rfl, hfz, hnd⟩ := hW
  have hA : DataW.TrodAll enc Try.prog W 0 (fun _ => true) true Try.f5.params.toList args.toList ds p := hA0
  rw [Try.params5] at hA hval
  obtain ⟨v0, vs0, d0, ds0, p0, q0, hargs, rfl, rfl, h0, r0⟩ := trodAll_cons hA
  obtain ⟨v1, vs1, d1, ds1, p1, q1, rfl, rfl, rfl, h1, r1⟩ := trodAll_cons r0
  obtain ⟨rfl, rfl, rfl⟩ := trodAll_nil r1
  obtain rfl : args = #[v0, v1] := by cases args; simp_all
  obtain ⟨rfl, rfl⟩ := trodVars_none hV
  obtain ⟨a0, rfl, rfl, rfl, w0⟩ := open_string Try.underlying9 (hval 0 9 v0 rfl rfl) h0
  obtain ⟨a1, rfl, rfl, rfl, w1⟩ := open_int Try.underlying5 (hval 1 5 v1 rfl rfl) h1
  clear hA0 hval0
  refine (walk a0 a1 w0 w1 W).mono fun e W' ⟨he, bel⟩ => ?_
  subst he
  exact ⟨_, rfl, _, _, _, [], _, [], hW', trodAll_mk1 (shut_bool Try.underlying4 _), (trodAll_cons_mk (shut_string Try.underlying9 w0) (trodAll_cons_mk (shut_int Try.underlying5 w1) trodAll_mk0)), rfl, bel.frame _, fun h => by cases h⟩

theorem over : Rows.fnMetaInfFileRoundTripRow.holds Try.pinned (OpenSpec.ofChange Rows.fnMetaInfFileRoundTripSpec) :=
  OpenClaim.holds_of_wide 5 Try.f5 rfl rfl rfl rfl rfl rfl rfl ⟨rfl, rfl, rfl, rfl, rfl⟩ rfl rfl rfl rfl rfl (by kernel_rfl) Try.func5 closed
    (of_decide_eq_true (by kernel_rfl)) (by unfold Func.isWrapper; first | (rw [if_pos (by decide +kernel)]; kernel_rfl) | (rw [if_neg (by decide +kernel)]; exact ⟨rfl, rfl⟩))
    (fun os started H enc _ => lifted os started H enc)

/-- ████ THE STATEMENT ████ -/
theorem proved : Rows.FnMetaInfFileRoundTripSaid :=
  over
end Go.Proofs.Qxb6000995a.fnMetaInfFileRoundTrip
