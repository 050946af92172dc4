/-
  The walks of the functions on the road: casedWord, equalFoldASCII, metaInfFile, hasByte.
-/
import Derived.Test.Qxb6000995aRows
import Derived.WalkKit
import Derived.WalkSpells
import Derived.WalkLawsBesides
import Derived.Below
import Derived.Laws.BytesArg
import Derived.Laws.Concat
import Derived.Laws.Externs
import Derived.Lib.Bytealg
import Derived.Deep.QuietTactic
import Derived.BigQuiet
import Derived.Deep.CutBlock
import Derived.Deep.DeepCutAuto
namespace Go.Proofs.Qxb6000995a
open Go.RowKit

/-- A letter in the lower case; any other byte as it is. -/
def lowI (x : Int) : Int := if 65 ≤ x ∧ x ≤ 90 then x + 32 else x
/-- A string's bytes, as integers. -/
def sb (s : ByteArray) : List Int := s.data.toList.map fun b => (b.toNat : Int)

theorem sb_len (s : ByteArray) : (sb s).length = s.size := by simp [sb]
theorem sb_get (s : ByteArray) (k : Nat) (h : k < s.size) : (sb s).getD k 0 = ((s[k]).toNat : Int) := by
  have h1 : s.data[k]? = some s[k] := Array.getElem?_eq_getElem h
  simp [sb, List.getD, h1]

set_option maxHeartbeats 400000 in
theorem upper_any (x : Int) (w : World) (h0 : 0 ≤ x) (h1 : x < 256) :
    Calls Try.prog 24 #[.int .u8 x] w fun e w' => ∃ y : Int, e = .returned (.int .u8 y) ∧ 0 ≤ y ∧ y < 256 ∧ lowI y = lowI x ∧ w' = w := by
  by_cases ha : 97 ≤ x
  · by_cases hb : x ≤ 122
    · go_enter Try.func24, Try.ntmps24
      go_wp2
      go_ret
      exact ⟨x - 32, rfl, by omega, by omega, by unfold lowI; rw [if_pos (by omega), if_neg (by omega)]; omega, rfl⟩
    · go_enter Try.func24, Try.ntmps24
      go_wp2
      go_ret
      exact ⟨x, rfl, by omega, by omega, rfl, rfl⟩
  · go_enter Try.func24, Try.ntmps24
    go_wp2
    go_ret
    exact ⟨x, rfl, by omega, by omega, rfl, rfl⟩

set_option maxHeartbeats 400000 in
theorem lower_any (x : Int) (w : World) (h0 : 0 ≤ x) (h1 : x < 256) :
    Calls Try.prog 25 #[.int .u8 x] w fun e w' => ∃ y : Int, e = .returned (.int .u8 y) ∧ 0 ≤ y ∧ y < 256 ∧ lowI y = lowI x ∧ w' = w := by
  by_cases ha : 65 ≤ x
  · by_cases hb : x ≤ 90
    · go_enter Try.func25, Try.ntmps25
      go_wp2
      go_ret
      exact ⟨x + 32, rfl, by omega, by omega, by unfold lowI; rw [if_neg (by omega), if_pos (by omega)], rfl⟩
    · go_enter Try.func25, Try.ntmps25
      go_wp2
      go_ret
      exact ⟨x, rfl, by omega, by omega, rfl, rfl⟩
  · go_enter Try.func25, Try.ntmps25
    go_wp2
    go_ret
    exact ⟨x, rfl, by omega, by omega, rfl, rfl⟩

set_option maxHeartbeats 400000 in
theorem lowASCII_any (x : Int) (w : World) (h0 : 0 ≤ x) (h1 : x < 256) :
    Calls Try.prog 30 #[.int .u8 x] w fun e w' => e = .returned (.int .u8 (lowI x)) ∧ w' = w := by
  by_cases ha : 65 ≤ x
  · by_cases hb : x ≤ 90
    · go_enter Try.func30, Try.ntmps30
      go_wp2
      go_ret
      exact ⟨by unfold lowI; rw [if_pos (by omega)]; go_num, rfl⟩
    · go_enter Try.func30, Try.ntmps30
      go_wp2
      go_ret
      exact ⟨by unfold lowI; rw [if_neg (by omega)]; rfl, rfl⟩
  · go_enter Try.func30, Try.ntmps30
    go_wp2
    go_ret
    exact ⟨by unfold lowI; rw [if_neg (by omega)]; rfl, rfl⟩

theorem Try.info5 : (Try.prog.info? 5).map (fun i => (i.zero, i.size, i.bytes)) = some (some (.int .u8 0), 1, 1) := by kernel_rfl

/-- A string of the same length, the same bytes but for the letters' case. -/
def Fold (t s : ByteArray) : Prop := t.size = s.size ∧ ∀ j, j < s.size → lowI ((sb t).getD j 0) = lowI ((sb s).getD j 0)
def CPost (s : ByteArray) (w : World) (e : Ending) (w' : World) : Prop := ∃ t : ByteArray, e = .returned (.string t) ∧ Fold t s ∧ Below w.heap.size w w'

theorem sb_strOfNums (zs : List Int) (h : ∀ x ∈ zs, 0 ≤ x ∧ x < 256) : sb (strOfNums zs) = zs := by
  unfold sb strOfNums
  simp only [List.map_map]
  conv => rhs; rw [← List.map_id zs]
  refine List.map_congr_left fun x hx => ?_
  have := h x hx
  simp
  omega

set_option maxHeartbeats 1000000 in
theorem cased_any (s : ByteArray) (b : Int) (w : World) (hs : s.size ≤ 1048576) :
    Calls Try.prog 14 #[.string s, .int .u8 b] w (CPost s w) := by
  obtain ⟨i0, hi, hz0, hz1, hz2⟩ := info_parts Try.info5
  go_enter Try.func14, Try.ntmps14
  go_wp2_with (at_make; refine wpList_make_full _ rfl (.tmp 8) (.tmp 8) 30 rfl w.heap.size 5 i0 (.int .u8 0) 1 Try.underlying30 hi hz0 hz1 .i64 .i64 s.size s.size s.size rfl rfl rfl rfl (by rw [hz2]; omega) (by unfold maxLen; omega) (Nat.le_refl _) ?_; intro w1 hown hgrow)
  have hbel1 : Below w.heap.size w w1 := (Below.refl _ w).grown hgrow (Nat.le_refl _) (by intro r hr; cases hr)
  have hown1 : w1.ownsRow w.heap.size 5 1 (.slice (some ⟨w.heap.size, 0, none⟩) s.size s.size) s.size ((List.replicate s.size (0 : Int)).map (Value.int .u8)) := by
    have e : (madeCells (Value.int .u8 0).cells (s.size * 1)).toList = (List.replicate s.size (0 : Int)).map (Value.int .u8) := by
      rw [Nat.mul_one, List.map_replicate]
      exact toList_madeCells_one _ _
    rw [← e]; exact hown
  go_loopw [6] (fun i wr => ∃ (k : Nat) (zs : List Int), k ≤ s.size ∧ i = .int .i64 (k : Int) ∧ Below w.heap.size w wr ∧ wr.ownsRow w.heap.size 5 1 (.slice (some ⟨w.heap.size, 0, none⟩) s.size s.size) s.size (zs.map (Value.int .u8)) ∧ Hid ((∀ x ∈ zs, 0 ≤ x ∧ x < 256) ∧ ∀ j, j < k → lowI (zs.getD j 0) = lowI ((sb s).getD j 0))) (fun i _ => s.size - (intOf i).toNat)
  case atStart => exact ⟨0, _, Nat.zero_le _, rfl, hbel1, hown1, fun x hx => by rw [List.eq_of_mem_replicate hx]; omega, fun j hj => absurd hj (Nat.not_lt_zero _)⟩
  case round =>
    clear hown hgrow hbel1 hown1
    obtain ⟨k, zs, hk, rfl, hbel, hy, HZ⟩ := hrel
    have hzl : zs.length = s.size := by have := hy.1; simpa using this
    have HZl : Hid (zs.length = s.size) := hzl
    clear hzl
    by_cases hlt : k < s.size
    · have HG := sb_get s k hlt
      obtain ⟨x, hx⟩ : ∃ x : UInt8, s[k] = x := ⟨_, rfl⟩
      rw [hx] at HG
      have HGx : Hid ((sb s).getD k 0 = (x.toNat : Int)) := HG
      clear HG
      have hx256 : x.toNat < 256 := x.toNat_lt
      have hf := hy.frozenAt k
      obtain ⟨v0, hcy⟩ : ∃ v, wr.cell? ⟨w.heap.size, k, none⟩ = some v := ⟨.int .u8 (zs[k]'(by rw [HZl.out]; exact hlt)), by rw [hy.cellAt k (by omega)]; simp⟩
      go_wp2_with (first | (go_at_call 24; refine (upper_any _ _ (by omega) (by omega)).mono ?_; rintro e w' ⟨y, rfl, hy0, hy1, hyl, hw⟩; have hw := hw.symm; subst hw; have HY : Hid (lowI y = lowI (x.toNat : Int)) := hyl; clear hyl) | (go_at_call 25; refine (lower_any _ _ (by omega) (by omega)).mono ?_; rintro e w' ⟨y, rfl, hy0, hy1, hyl, hw⟩; have hw := hw.symm; subst hw; have HY : Hid (lowI y = lowI (x.toNat : Int)) := hyl; clear hyl))
      all_goals
        go_roundw
        case rel =>
          have st := hy.stored k (.int .u8 y)
          refine ⟨k + 1, zs.set k y, by omega, by go_num, hbel.setCell (Nat.le_refl _) _, by rw [List.map_set]; exact st.1, ?_, ?_⟩
          · intro z hz
            rcases List.mem_or_eq_of_mem_set hz with h | h
            · exact HZ.out.1 z h
            · rw [h]; exact ⟨hy0, hy1⟩
          · intro j hj
            have hzl := HZl.out
            by_cases hjk : j = k
            · subst hjk
              have e : (zs.set j y).getD j 0 = y := by simp [List.getD, hzl, hlt]
              rw [e, HGx.out]; exact HY.out
            · have e : (zs.set k y).getD j 0 = zs.getD j 0 := by simp only [List.getD]; rw [List.getElem?_set_ne (by omega)]
              rw [e]
              exact HZ.out.2 j (by omega)
        case measure => simp [intOf]; omega
    · have hkn : k = s.size := by omega
      have hcv := run_convert_bytes_arg (P := Try.prog) wr 30 5 Try.underlying30 Try.underlying5 w.heap.size 0 s.size s.size zs HZl.out (fun i hi' => by
        rw [Nat.zero_add, hy.cellAt i (by omega)]
        have : i < zs.length := by rw [HZl.out]; exact hi'
        simp [List.getD, this]) 9 Try.underlying9
      go_wp2
      go_ret
      refine ⟨strOfNums zs, rfl, ⟨?_, fun j hj => ?_⟩, hbel⟩
      · rw [← sb_len, sb_strOfNums zs HZ.out.1, HZl.out]
      · rw [sb_strOfNums zs HZ.out.1]
        exact HZ.out.2 j (by omega)

/-- equalFoldASCII of two strings that are one but for the letters' case. -/
theorem fold_any (a b : ByteArray) (w : World) (ha : a.size ≤ 1048576) (h : Fold a b) :
    Calls Try.prog 28 #[.string a, .string b] w fun e w' => e = .returned (.bool true) ∧ Below w.heap.size w w' := by
  obtain ⟨hsz, hf⟩ := h
  have HF : Hid (∀ j, j < b.size → lowI ((sb a).getD j 0) = lowI ((sb b).getD j 0)) := hf
  have HS : Hid (a.size = b.size) := hsz
  have hs1 : a.size ≤ b.size := by omega
  have hs2 : b.size ≤ a.size := by omega
  clear hsz hf
  go_enter Try.func28, Try.ntmps28
  go_wp2
  go_loopw [13] (fun i wr => ∃ k : Nat, k ≤ a.size ∧ i = .int .i64 (k : Int) ∧ Below w.heap.size w wr) (fun i _ => a.size - (intOf i).toNat)
  case atStart => exact ⟨0, Nat.zero_le _, rfl, Below.refl _ _⟩
  case round =>
    obtain ⟨k, hk, rfl, hbel⟩ := hrel
    by_cases hlt : k < a.size
    · have hltb : k < b.size := by omega
      have G1 := sb_get a k hlt
      have G2 := sb_get b k hltb
      have hfk := HF.out k hltb
      rw [G1, G2] at hfk
      clear G1 G2
      obtain ⟨x, hx⟩ : ∃ x : UInt8, a[k] = x := ⟨_, rfl⟩
      obtain ⟨y, hy⟩ : ∃ y : UInt8, b[k] = y := ⟨_, rfl⟩
      rw [hx, hy] at hfk
      have HFK : Hid (lowI (x.toNat : Int) = lowI (y.toNat : Int)) := hfk
      clear hfk
      have hx256 : x.toNat < 256 := x.toNat_lt
      have hy256 : y.toNat < 256 := y.toNat_lt
      have i1 : (k : Int) < (a.size : Int) := by omega
      have i2 : (k : Int) < (b.size : Int) := by omega
      have hne : (lowI (x.toNat : Int) != lowI (y.toNat : Int)) = false := by simp [HFK.out]
      go_wp2_with fail
      go_quiet ((go_at_call 30; exact Calls.quiet_of_same (lowASCII_any _ _ (by omega) (by omega))))
      go_wp2
      go_roundw
      case rel => exact ⟨k + 1, by omega, by go_num, below_drewN hbel _⟩
      case measure => simp [intOf]; omega
    · go_wp2
      go_ret
      exact ⟨rfl, hbel⟩

theorem index_none (l : List UInt8) (c : UInt8) (h : ∀ b ∈ l, b ≠ c) : Lib.indexByte l c = -1 := by
  induction l with
  | nil => rfl
  | cons b l ih =>
    have h1 : (b == c) = false := by simpa using h b (by simp)
    have h2 := ih (fun x hx => h x (by simp [hx]))
    show (if b == c then (0 : Int) else if Lib.indexByte l c == -1 then -1 else Lib.indexByte l c + 1) = -1
    rw [h1, h2]
    rfl

/-- No slash among the string's bytes. -/
def NoSlash (s : ByteArray) : Prop := ∀ b ∈ s.data.toList, b ≠ 47

set_option maxHeartbeats 1000000 in
set_option maxRecDepth 100000 in
theorem indexByte_any (s : ByteArray) (w : World) (h : NoSlash s) :
    Calls Try.prog 35 #[.string s, .int .u8 47] w fun e w' => e = .returned (.int .i64 (-1)) ∧ w' = w := by
  go_enter Try.func35, Try.ntmps35
  go_wp2
  rw [run_callFunc_extern Try.func39 (by kernel_rfl) (by kernel_rfl) (by kernel_rfl) (e := Extern.BytealgIndexByte.indexByte) (by kernel_rfl), Lib.run_indexByteString s 47 w]
  simp only [Result.andThen]
  rw [Oper.upon_value]
  have e : Lib.indexByte s.data.toList (47 : Int).toNat.toUInt8 = -1 := index_none _ _ h
  rw [e]
  go_wp2
  go_ret
  exact ⟨rfl, rfl⟩

set_option maxHeartbeats 1000000 in
set_option maxRecDepth 100000 in
theorem contains_any (s : ByteArray) (w : World) (h : NoSlash s) :
    Calls Try.prog 31 #[.string s, .string ⟨#[47]⟩] w fun e w' => e = .returned (.bool false) ∧ w' = w := by
  have hcon := indexByte_any s w h
  have hns : (([47] : List UInt8) == s.toList) = false := by
    rw [beq_eq_false_iff_ne]
    intro e
    rw [ByteArray.toList_eq] at e
    exact h 47 (by rw [← e]; simp) rfl
  go_enter Try.func31, Try.ntmps31
  go_wp2_with (first | (go_at_call 35; refine hcon.mono ?_; rintro e w' ⟨rfl, hw⟩; have hw := hw.symm; subst hw) | go_in)
  go_ret
  exact ⟨rfl, rfl⟩

set_option maxHeartbeats 1000000 in
/-- metaInfFile of a path whose ninth byte is the slash, whose first eight are the folder's name in some case, and in whose rest no slash stands. -/
theorem meta_any (name : ByteArray) (w : World) (hs1 : 9 ≤ name.size) (hs2 : name.size ≤ 2097152) (h8 : (name[8]).toNat = 47) (hf : Fold (name.extract 0 8) ⟨#[77, 69, 84, 65, 45, 73, 78, 70]⟩) (hn : NoSlash (name.extract 9 name.size)) :
    Calls Try.prog 27 #[.string name] w fun e w' => e = .returned (.tuple #[.string (name.extract 9 name.size), .bool true]) ∧ Below w.heap.size w w' := by
  have hcon := fold_any (name.extract 0 8) ⟨#[77, 69, 84, 65, 45, 73, 78, 70]⟩ w (by simp; omega) hf
  have HN : Hid (NoSlash (name.extract 9 name.size)) := hn
  clear hf hn
  go_enter Try.func27, Try.ntmps27
  go_wp2_with (go_at_call 28; refine hcon.mono ?_; rintro e w' ⟨rfl, hb⟩)
  refine (contains_any _ _ HN.out).mono ?_
  rintro e w2 ⟨rfl, hw⟩
  have hw := hw.symm
  subst hw
  go_wp2
  go_ret2
  exact ⟨rfl, hb⟩

set_option maxHeartbeats 400000 in
theorem zzmeta_any (name : ByteArray) (w : World) (hs1 : 9 ≤ name.size) (hs2 : name.size ≤ 2097152) (h8 : (name[8]).toNat = 47) (hf : Fold (name.extract 0 8) ⟨#[77, 69, 84, 65, 45, 73, 78, 70]⟩) (hn : NoSlash (name.extract 9 name.size)) :
    Calls Try.prog 17 #[.string name] w fun e w' => e = .returned (.tuple #[.string (name.extract 9 name.size), .bool true]) ∧ Below w.heap.size w w' := by
  have hcon := meta_any name w hs1 hs2 h8 hf hn
  clear h8 hf hn
  go_enter Try.func17, Try.ntmps17
  go_wp2_with (go_at_call 27; refine hcon.mono ?_; rintro e w' ⟨rfl, hb⟩)
  go_ret2
  exact ⟨rfl, hb⟩

/-- hasByte at the slash. -/
def HPost (s : ByteArray) (w : World) (e : Ending) (w' : World) : Prop := w' = w ∧ (e = .returned (.bool true) ∨ (e = .returned (.bool false) ∧ NoSlash s))

theorem noSlash_of (s : ByteArray) (h : ∀ j, j < s.size → (sb s).getD j 0 ≠ 47) : NoSlash s := by
  intro b hb e
  obtain ⟨j, hj, hjb⟩ := List.mem_iff_getElem.1 hb
  have hj' : j < s.size := by simpa using hj
  refine h j hj' ?_
  rw [sb_get s j hj']
  have : s[j] = b := by rw [← hjb]; rfl
  rw [this, e]
  rfl

set_option maxHeartbeats 1000000 in
theorem has_any (s : ByteArray) (w : World) (hs : s.size ≤ 1048576) : Calls Try.prog 13 #[.string s, .int .u8 47] w (HPost s w) := by
  go_enter Try.func13, Try.ntmps13
  go_wp2
  go_loop [5] (fun i => ∃ k : Nat, k ≤ s.size ∧ i = .int .i64 (k : Int) ∧ Hid (∀ j, j < k → (sb s).getD j 0 ≠ 47)) (fun i => s.size - (intOf i).toNat)
  case atStart => exact ⟨0, Nat.zero_le _, rfl, fun j hj => absurd hj (Nat.not_lt_zero _)⟩
  case round =>
    obtain ⟨k, hk, rfl, HK⟩ := hrel
    by_cases hlt : k < s.size
    · have HG := sb_get s k hlt
      obtain ⟨x, hx⟩ : ∃ x : UInt8, s[k] = x := ⟨_, rfl⟩
      rw [hx] at HG
      have HGx : Hid ((sb s).getD k 0 = (x.toNat : Int)) := HG
      clear HG
      by_cases h47 : (x.toNat : Int) = 47
      · have hh : ((x.toNat : Int) == 47) = true := by simpa using h47
        clear h47
        go_wp2
        go_ret
        exact ⟨rfl, .inl rfl⟩
      · have hh : ((x.toNat : Int) == 47) = false := by rw [beq_eq_false_iff_ne]; exact h47
        have H47 : Hid ((x.toNat : Int) ≠ 47) := h47
        clear h47
        go_wp2
        go_round
        case rel =>
          refine ⟨k + 1, by omega, by go_num, fun j hj => ?_⟩
          by_cases hjk : j = k
          · subst hjk; rw [HGx.out]; exact H47.out
          · exact HK.out j (by omega)
        case measure => simp [intOf]; omega
    · have hkn : k = s.size := by omega
      go_wp2
      go_ret
      exact ⟨rfl, .inr ⟨rfl, noSlash_of s (fun j hj => HK.out j (by omega))⟩⟩
end Go.Proofs.Qxb6000995a
