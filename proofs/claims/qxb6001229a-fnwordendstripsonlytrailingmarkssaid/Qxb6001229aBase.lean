/-
  The walks of wordEnd and of what it calls.
-/
import Derived.Test.Qxb6001229aRows
import Derived.Test.Qxb6001229aPlain
import Derived.WalkKit
import Derived.WalkSpells
import Derived.WalkLawsBesides
import Derived.Below
import Derived.Laws.Externs
import Derived.Lib.Bytealg
import Derived.Lib.Strings
import Derived.Deep.CutBlock
import Derived.Deep.DeepCutAuto
namespace Go.Proofs.Qxb6001229a
open Go.RowKit Pl

/-- A string's bytes, as integers. -/
def sb (s : ByteArray) : List Int := s.data.toList.map fun b => (b.toNat : Int)
theorem sb_get (s : ByteArray) (k : Nat) (h : k < s.size) : (sb s).getD k 0 = ((s[k]).toNat : Int) := by
  have h1 : s.data[k]? = some s[k] := Array.getElem?_eq_getElem h
  simp [sb, List.getD, h1]
theorem sb_extract (s : ByteArray) (e : Nat) : sb (s.extract 0 e) = (sb s).take e := by
  unfold sb
  rw [Lib.extract_data, List.drop_zero, Nat.sub_zero, List.map_take]

theorem index_none (l : List UInt8) (c : UInt8) (h : ∀ b ∈ l, b ≠ c) : Lib.indexByte l c = -1 := by
  induction l with
  | nil => rfl
  | cons b l ih =>
    have h1 : (b == c) = false := by simpa using h b (by simp)
    have h2 := ih (fun x hx => h x (by simp [hx]))
    show (if b == c then (0 : Int) else if Lib.indexByte l c == -1 then -1 else Lib.indexByte l c + 1) = -1
    rw [h1, h2]
    rfl

/-- strings.IndexByte among the four marks. -/
theorem marks_no (x : Int) (_h0 : 0 ≤ x) (h1 : x < 256) (h : isMark x = false) : Lib.indexByte [46, 44, 59, 58] x.toNat.toUInt8 = -1 := by
  simp only [isMark, decide_eq_false_iff_not, not_or] at h
  refine index_none _ _ fun b hb e => ?_
  have e2 : (x.toNat.toUInt8).toNat = x.toNat := by simp; omega
  rw [← e] at e2
  simp at hb
  rcases hb with rfl | rfl | rfl | rfl
  · have : x.toNat = 46 := e2.symm.trans rfl
    omega
  · have : x.toNat = 44 := e2.symm.trans rfl
    omega
  · have : x.toNat = 59 := e2.symm.trans rfl
    omega
  · have : x.toNat = 58 := e2.symm.trans rfl
    omega
theorem marks_yes (x : Int) (h : isMark x = true) : 0 ≤ Lib.indexByte [46, 44, 59, 58] x.toNat.toUInt8 := by
  simp only [isMark, decide_eq_true_eq] at h
  rcases h with rfl | rfl | rfl | rfl <;> decide

set_option maxHeartbeats 1000000 in
set_option maxRecDepth 100000 in
theorem index_any (x : Int) (w : World) :
    Calls Try.prog 26 #[.string ⟨#[46, 44, 59, 58]⟩, .int .u8 x] w fun e w' => e = .returned (.int .i64 (Lib.indexByte [46, 44, 59, 58] x.toNat.toUInt8)) ∧ w' = w := by
  go_enter Try.func26, Try.ntmps26
  go_wp2
  rw [run_callFunc_extern Try.func30 (by kernel_rfl) (by kernel_rfl) (by kernel_rfl) (e := Extern.BytealgIndexByte.indexByte) (by kernel_rfl), Lib.run_indexByteString ⟨#[46, 44, 59, 58]⟩ x w]
  simp only [Result.andThen]
  rw [Oper.upon_value]
  go_wp2
  go_ret
  exact ⟨rfl, rfl⟩

set_option maxHeartbeats 400000 in
theorem mark_any (x : Int) (w : World) : Calls Try.prog 19 #[.int .u8 x] w fun e w' => e = .returned (.bool (isMark x)) ∧ w' = w := by
  by_cases h : x = 46 ∨ x = 44 ∨ x = 59 ∨ x = 58
  · rcases h with rfl | rfl | rfl | rfl
    all_goals
      go_enter Try.func19, Try.ntmps19
      go_wp2
      go_ret
      exact ⟨rfl, rfl⟩
  · have hm : isMark x = false := by simp [isMark]; simpa using h
    simp only [not_or] at h
    obtain ⟨n1, n2, n3, n4⟩ := h
    have k1 : (x == 46) = false := by simpa using n1
    have k2 : (x == 44) = false := by simpa using n2
    have k3 : (x == 59) = false := by simpa using n3
    have k4 : (x == 58) = false := by simpa using n4
    rw [hm]
    clear n1 n2 n3 n4 hm
    go_enter Try.func19, Try.ntmps19
    go_wp2
    go_ret
    exact ⟨rfl, rfl⟩

set_option maxHeartbeats 1000000 in
theorem wordEnd_any (s : ByteArray) (o : Int) (w : World) (hs : s.size ≤ 1048576) (ho1 : -1073741824 ≤ o) (ho2 : o ≤ 1073741824) :
    Calls Try.prog 23 #[.string s, .int .i64 o] w fun e w' => e = .returned (.tuple #[.int .i64 ((st (sb s) o s.size).1 : Int), .int .i64 (st (sb s) o s.size).2]) ∧ w' = w := by
  go_enter Try.func23, Try.ntmps23
  go_wp2
  go_loop [1, 4, 6] (fun op en i => ∃ (k e : Nat) (p : Int), k ≤ s.size ∧ i = .int .i64 (k : Int) ∧ en = .int .i64 (e : Int) ∧ op = .int .i64 p ∧ e ≤ k ∧ o - k ≤ p ∧ p ≤ o + k ∧ Hid (st (sb s) o k = (e, p))) (fun _ _ i => s.size - (intOf i).toNat)
  case atStart => exact ⟨0, 0, o, Nat.zero_le _, rfl, rfl, rfl, Nat.le_refl _, by omega, by omega, rfl⟩
  case round =>
    obtain ⟨k, e, p, hk, rfl, rfl, rfl, hek, hp1, hp2, HS⟩ := hrel
    by_cases hlt : k < s.size
    · have HG := sb_get s k hlt
      obtain ⟨xb, hx⟩ : ∃ x : UInt8, s[k] = x := ⟨_, rfl⟩
      rw [hx] at HG
      have hx256 : xb.toNat < 256 := xb.toNat_lt
      go_upto_region 5 with fail
      have hx0 : (0 : Int) ≤ (xb.toNat : Int) := by omega
      have hx1 : (xb.toNat : Int) < 256 := by omega
      have HG2 : Hid ((sb s).getD k 0 = (xb.toNat : Int)) := HG
      clear HG hx hx256
      generalize ((xb.toNat : Nat) : Int) = x at hx0 hx1 HG2 ⊢
      have hnext : Hid (st (sb s) o (k + 1) = wstep k (e, p) x) := by show _ = _; rw [st_succ, HS.out, HG2.out]
      clear HG2
      by_cases c40 : x = 40
      · have HN : Hid (st (sb s) o (k + 1) = (k + 1, p + 1)) := by show _ = _; rw [hnext.out]; unfold wstep; rw [if_pos c40]
        subst c40
        go_wp2
        go_round
        case rel => exact ⟨k + 1, k + 1, p + 1, by omega, by go_num, by go_num, rfl, Nat.le_refl _, by omega, by omega, HN⟩
        case measure => simp [intOf]; omega
      · have k40 : (x == 40) = false := by simpa using c40
        by_cases c41 : x = 41
        · by_cases cp : p = 0
          · have HN : Hid (st (sb s) o (k + 1) = (e, p)) := by show _ = _; rw [hnext.out]; unfold wstep; rw [if_neg c40, if_pos c41, if_pos cp]
            subst c41
            have kp : (p == 0) = true := by simpa using cp
            clear cp c40
            go_wp2
            go_round
            case rel => exact ⟨k + 1, e, p, by omega, by go_num, rfl, rfl, by omega, by omega, by omega, HN⟩
            case measure => simp [intOf]; omega
          · have HN : Hid (st (sb s) o (k + 1) = (k + 1, p - 1)) := by show _ = _; rw [hnext.out]; unfold wstep; rw [if_neg c40, if_pos c41, if_neg cp]
            subst c41
            have kp : (p == 0) = false := by simpa using cp
            clear cp c40
            go_wp2
            go_round
            case rel => exact ⟨k + 1, k + 1, p - 1, by omega, by go_num, by go_num, rfl, Nat.le_refl _, by omega, by omega, HN⟩
            case measure => simp [intOf]; omega
        · have k41 : (x == 41) = false := by simpa using c41
          by_cases cm : isMark x = true
          · have HN : Hid (st (sb s) o (k + 1) = (e, p)) := by show _ = _; rw [hnext.out]; unfold wstep; rw [if_neg c40, if_neg c41, if_pos cm]
            have hv := marks_yes x cm
            clear cm c40 c41
            have hcon := index_any x w
            generalize Lib.indexByte [46, 44, 59, 58] x.toNat.toUInt8 = v at hv hcon
            go_wp2_with (go_at_call 26; refine hcon.mono ?_; rintro e w' ⟨rfl, hw⟩; have hw := hw.symm; subst hw)
            go_round
            case rel => exact ⟨k + 1, e, p, by omega, by go_num, rfl, rfl, by omega, by omega, by omega, HN⟩
            case measure => simp [intOf]; omega
          · have HN : Hid (st (sb s) o (k + 1) = (k + 1, p)) := by show _ = _; rw [hnext.out]; unfold wstep; rw [if_neg c40, if_neg c41, if_neg cm]
            have hcon := index_any x w
            rw [marks_no x hx0 hx1 (by simpa using cm)] at hcon
            clear cm c40 c41
            go_wp2_with (go_at_call 26; refine hcon.mono ?_; rintro e w' ⟨rfl, hw⟩; have hw := hw.symm; subst hw)
            go_round
            case rel => exact ⟨k + 1, k + 1, p, by omega, by go_num, by go_num, rfl, Nat.le_refl _, by omega, by omega, HN⟩
            case measure => simp [intOf]; omega
    · have hkn : k = s.size := by omega
      subst hkn
      go_wp2
      go_ret2
      exact ⟨by rw [HS.out]; rfl, rfl⟩

set_option maxHeartbeats 400000 in
theorem zzWordEnd_any (s : ByteArray) (o : Int) (w : World) (hs : s.size ≤ 1048576) (ho1 : -1073741824 ≤ o) (ho2 : o ≤ 1073741824) :
    Calls Try.prog 17 #[.string s, .int .i64 o] w fun e w' => e = .returned (.tuple #[.int .i64 ((st (sb s) o s.size).1 : Int), .int .i64 (st (sb s) o s.size).2]) ∧ w' = w := by
  have hcon := wordEnd_any s o w hs ho1 ho2
  go_enter Try.func17, Try.ntmps17
  go_wp2_with (go_at_call 23; refine hcon.mono ?_; rintro e w' ⟨rfl, hw⟩; have hw := hw.symm; subst hw)
  go_ret2
  exact ⟨rfl, rfl⟩
end Go.Proofs.Qxb6001229a
