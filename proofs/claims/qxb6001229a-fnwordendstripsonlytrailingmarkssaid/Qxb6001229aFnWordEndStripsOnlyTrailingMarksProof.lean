/-
  The proof of 'Rows.FnWordEndStripsOnlyTrailingMarksSaid'. The frame ('lifted', 'over', 'proved') was written by the kit's proof-skeleton.mjs for this function; the walk is this seat's own work.
-/
import Derived.Test.Qxb6001229aRows
import Derived.WalkKit
import Derived.ProofKit
import Derived.OpenShut
import Derived.ShutString
import Derived.Test.Qxb6001229aBase
import Derived.Test.Qxb6001229aClosed
namespace Go.Proofs.Qxb6001229a.fnWordEndStripsOnlyTrailingMarks
open Go.ChangeShapes Go.WideShapes Go.ChangeAt Go.RowKit
open Go.ChangeMaps (open_string shut_string)
set_option linter.unusedVariables false      -- a walk need not use every 'w<i>' (that an integer argument fits its kind)

theorem own : ownKnob Try.prog.godebug = none := by kernel_rfl

/-! ### STEP 1: THE WALK -/
open Pl
theorem zz_yes (s : ByteArray) (o : Int) (w : World) (hn : s.size ≤ 1048576) :
    Calls Try.prog 18 #[.string s, .int .i64 o] w fun e w' => e = .returned (.bool true) ∧ w' = w := by
  go_enter Try.func18, Try.ntmps18
  go_wp2
  go_ret
  exact ⟨rfl, rfl⟩
theorem zz_no (s : ByteArray) (o : Int) (w : World) (hn : ¬ s.size ≤ 1048576) :
    Calls Try.prog 18 #[.string s, .int .i64 o] w fun e w' => e = .returned (.bool false) ∧ w' = w := by
  go_enter Try.func18, Try.ntmps18
  go_wp2
  go_ret
  exact ⟨rfl, rfl⟩

theorem walk_long (s : ByteArray) (o : Int) (w : World) (hn : ¬ s.size ≤ 1048576) :
    Calls Try.prog 8 #[.string s, .int .i64 o] w fun e w' => e = .returned (.bool true) ∧ w' = w := by
  have hz := zz_no s o w hn
  go_enter Try.func8, Try.ntmps8
  go_wp2_with (go_at_call 18; refine hz.mono ?_; rintro e w' ⟨rfl, hw⟩; have hw := hw.symm; subst hw)
  go_ret
  exact ⟨rfl, rfl⟩
theorem walk_out (s : ByteArray) (o : Int) (w : World) (hn : s.size ≤ 1048576) (ho : o < -1073741824 ∨ 1073741824 < o) :
    Calls Try.prog 8 #[.string s, .int .i64 o] w fun e w' => e = .returned (.bool true) ∧ w' = w := by
  have hz := zz_yes s o w hn
  rcases ho with ho | ho
  all_goals
    go_enter Try.func8, Try.ntmps8
    go_wp2_with (go_at_call 18; refine hz.mono ?_; rintro e w' ⟨rfl, hw⟩; have hw := hw.symm; subst hw)
    go_ret
    exact ⟨rfl, rfl⟩

theorem ret_bool {b : Bool} (h : b = true) : Ending.returned (.bool b) = .returned (.bool true) := by rw [h]

set_option maxHeartbeats 1000000 in
theorem walk_in (s : ByteArray) (o : Int) (w : World) (hn : s.size ≤ 1048576) (ho1 : -1073741824 ≤ o) (ho2 : o ≤ 1073741824) :
    Calls Try.prog 8 #[.string s, .int .i64 o] w fun e w' => e = .returned (.bool true) ∧ w' = w := by
  have hz := zz_yes s o w hn
  have hcon1 := zzWordEnd_any s o w hn ho1 ho2
  have hbd := st_bd (sb s) o s.size
  have hinv := st_inv (sb s) o s.size
  obtain ⟨e, l, hst⟩ : ∃ e l, st (sb s) o s.size = (e, l) := ⟨_, _, rfl⟩
  rw [hst] at hcon1 hbd hinv
  obtain ⟨hb1, hb2, hb3⟩ := hbd
  obtain ⟨hi1, hi2, hi3⟩ := hinv
  have hb1' : e ≤ s.size := hb1
  have hsz : (s.extract 0 e).size = e := by simp; omega
  have hcon2 := zzWordEnd_any (s.extract 0 e) o w (by rw [hsz]; omega) ho1 ho2
  rw [hsz, sb_extract, st_take _ _ _ _ (Nat.le_refl _), hi1] at hcon2
  have HI2 : Hid (∀ i, e ≤ i → i < s.size → isMark ((sb s).getD i 0) = true ∨ (sb s).getD i 0 = 41) := hi2
  have HI3 : Hid (0 < e → isMark ((sb s).getD (e - 1) 0) = false) := hi3
  have hd1 : decide ((s.size : Int) < (e : Int)) = false := decide_eq_false (by omega)
  have hd2 : decide (s.size < e) = false := decide_eq_false (by omega)
  have hd3 : decide ((e : Int) < 0) = false := decide_eq_false (by omega)
  clear hst hb1 hb2 hb3 hi1 hi2 hi3 hsz
  go_enter Try.func8, Try.ntmps8
  go_wp2_with fail
  refine hz.mono ?_
  rintro e1 w' ⟨rfl, hw⟩
  have hw := hw.symm
  subst hw
  go_wp2_with fail
  refine hcon1.mono ?_
  rintro e1 w' ⟨rfl, hw⟩
  have hw := hw.symm
  subst hw
  clear hz hcon1
  go_wp2
  go_loop [7] (fun i => ∃ k : Nat, e ≤ k ∧ k ≤ s.size ∧ i = .int .i64 (k : Int)) (fun i => s.size - (intOf i).toNat)
  case atStart => exact ⟨e, Nat.le_refl _, hb1', rfl⟩
  case round =>
    obtain ⟨k, hek, hk, rfl⟩ := hrel
    by_cases hlt : k < s.size
    · have hor := HI2.out k hek hlt
      rw [sb_get s k hlt] at hor
      obtain ⟨x, hx⟩ : ∃ x : UInt8, s[k] = x := ⟨_, rfl⟩
      rw [hx] at hor
      have hm := mark_any (x.toNat : Int) w
      by_cases hmk : isMark (x.toNat : Int) = true
      · clear hor
        rw [hmk] at hm
        clear hmk
        go_wp2_with (go_at_call 19; refine hm.mono ?_; rintro e1 w' ⟨rfl, hw⟩; have hw := hw.symm; subst hw)
        go_round
        case rel => exact ⟨k + 1, by omega, by omega, by go_num⟩
        case measure => simp [intOf]; omega
      · have h41 : (x.toNat : Int) = 41 := by
          rcases hor with h | h
          · exact absurd h hmk
          · exact h
        have hmf : isMark (x.toNat : Int) = false := by simpa using hmk
        rw [hmf] at hm
        have k41 : ((x.toNat : Int) != 41) = false := by rw [h41]; rfl
        clear hor hmk hmf h41
        go_wp2_with (go_at_call 19; refine hm.mono ?_; rintro e1 w' ⟨rfl, hw⟩; have hw := hw.symm; subst hw)
        go_round
        case rel => exact ⟨k + 1, by omega, by omega, by go_num⟩
        case measure => simp [intOf]; omega
    · by_cases he : 0 < e
      · have hlt' : e - 1 < s.size := by omega
        have hmf := HI3.out he
        rw [sb_get s (e - 1) hlt'] at hmf
        obtain ⟨x, hx⟩ : ∃ x : UInt8, s[e - 1] = x := ⟨_, rfl⟩
        rw [hx] at hmf
        have hm := mark_any (x.toNat : Int) w
        rw [hmf] at hm
        clear hmf
        go_wp2_with (go_at_call 19; refine hm.mono ?_; rintro e1 w' ⟨rfl, hw⟩; have hw := hw.symm; subst hw)
        refine hcon2.mono ?_
        rintro e1 w' ⟨rfl, hw⟩
        have hw := hw.symm
        subst hw
        go_wp2
        go_ret
        exact ⟨ret_bool (by first | rfl | simp), rfl⟩
      · go_wp2_with fail
        refine hcon2.mono ?_
        rintro e1 w' ⟨rfl, hw⟩
        have hw := hw.symm
        subst hw
        go_wp2
        go_ret
        exact ⟨ret_bool (by first | rfl | simp), rfl⟩

theorem walk (a0 : ByteArray) (a1 : Int) (w0 : a0.size ≤ maxLen) (w1 : (Lit.int .i64 a1).wf = true) (w : World) :
    Calls Try.prog 8 #[.string a0, .int .i64 a1] w fun e w' => e = .returned (.bool true) ∧ Grown w w' := by
  have key : Calls Try.prog 8 #[.string a0, .int .i64 a1] w fun e w' => e = .returned (.bool true) ∧ w' = w := by
    by_cases hn : a0.size ≤ 1048576
    · by_cases ho : a1 < -1073741824 ∨ 1073741824 < a1
      · exact walk_out a0 a1 w hn ho
      · exact walk_in a0 a1 w hn (by omega) (by omega)
    · exact walk_long a0 a1 w hn
  exact key.mono fun e w' ⟨h1, h2⟩ => ⟨h1, by rw [h2]; exact Grown.refl _⟩

/-! ### THE ROW's STEP: WRITTEN OUT: LEAVE IT -/
set_option maxRecDepth 100000 in
theorem lifted (os : Os) (started : os.Started) (H : Type) (enc : TypeId × Value → H) :
    ReturnsInHanded {} Try.checked os 8 .any (Rows.fnWordEndStripsOnlyTrailingMarksSpec.pre6 enc Try.prog Try.f8 Rows.fnWordEndStripsOnlyTrailingMarksRow.domain false) (Rows.fnWordEndStripsOnlyTrailingMarksSpec.post enc Try.prog Try.f8 false true false false) := by
  refine returnsInHanded_of_change (C := Try.checked) own started (by kernel_rfl) Try.func8
    (ChangeSpec.witness6 (enc := enc) (C := Try.checked) false ⟨#[], #[.string ByteArray.empty, .int .i64 0], []⟩ 8 (by kernel_rfl) (by kernel_rfl) (by kernel_rfl) (by kernel_rfl)) ?_
  intro W base args ds gs before hval0 hW hcnd _
  have hval : ∀ (j : Nat) t v, Try.f8.params[j]? = some t → args[j]? = some v → Value.okWide Try.prog W .any base t v := hval0
  have hW' := hW
  obtain ⟨p, q, hA0, hV, rfl, hfz, hnd⟩ := hW
  have hA : DataW.TrodAll enc Try.prog W 0 (fun _ => true) true Try.f8.params.toList args.toList ds p := hA0
  rw [Try.params8] at hA hval
  obtain ⟨v0, vs0, d0, ds0, p0, q0, hargs, rfl, rfl, h0, r0⟩ := trodAll_cons hA
  obtain ⟨v1, vs1, d1, ds1, p1, q1, rfl, rfl, rfl, h1, r1⟩ := trodAll_cons r0
  obtain ⟨rfl, rfl, rfl⟩ := trodAll_nil r1
  obtain rfl : args = #[v0, v1] := by cases args; simp_all
  obtain ⟨rfl, rfl⟩ := trodVars_none hV
  obtain ⟨a0, rfl, rfl, rfl, w0⟩ := open_string Try.underlying9 (hval 0 9 v0 rfl rfl) h0
  obtain ⟨a1, rfl, rfl, rfl, w1⟩ := open_int Try.underlying3 (hval 1 3 v1 rfl rfl) h1
  clear hA0 hval0
  simp only [List.append_nil] at hW'
  refine (walk a0 a1 w0 w1 W).mono fun e W' ⟨he, hg⟩ => ?_
  subst he
  exact ⟨_, rfl, post_of_same (pa := []) (pv := []) hW' (fun _ _ _ => (trodAll_cons_mk (shut_bool Try.underlying4 _) trodAll_mk0)) (fun sp _ => (trodAll_cons_mk (shut_string Try.underlying9 w0) (trodAll_cons_mk (shut_int Try.underlying3 w1) trodAll_mk0))) (fun _ _ => rfl) rfl
    (hg.frame _) hg.2.1 (ok_one (by kernel_rfl) rfl (okWide_bool_mk Try.underlying4 _))⟩

theorem over : Rows.fnWordEndStripsOnlyTrailingMarksRow.holds Try.pinned (OpenSpec.ofChange Rows.fnWordEndStripsOnlyTrailingMarksSpec) :=
  OpenClaim.holds_of_wide 8 Try.f8 rfl rfl rfl rfl rfl rfl rfl ⟨rfl, rfl, rfl, rfl, rfl⟩ rfl rfl rfl rfl rfl (by kernel_rfl) Try.func8 closed
    (of_decide_eq_true (by kernel_rfl)) (by unfold Func.isWrapper; first | (rw [if_pos (by decide +kernel)]; kernel_rfl) | (rw [if_neg (by decide +kernel)]; exact ⟨rfl, rfl⟩))
    (fun os started H enc _ => lifted os started H enc)

/-- ████ THE STATEMENT ████ -/
theorem proved : Rows.FnWordEndStripsOnlyTrailingMarksSaid :=
  over
end Go.Proofs.Qxb6001229a.fnWordEndStripsOnlyTrailingMarks
