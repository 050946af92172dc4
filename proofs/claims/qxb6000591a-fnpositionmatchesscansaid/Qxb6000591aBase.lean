/-
  The walks of the functions that both laws call: bytealg.LastIndexByte, bytes.Count at one byte, position.
-/
import Derived.Test.Qxb6000591aRows
import Derived.Test.Qxb6000591aPlain
import Derived.WalkKit
import Derived.WalkSpells
import Derived.WalkLawsBesides
import Derived.Below
import Derived.Lib.SlBytesConst
import Derived.Shelf.Bytes.SlCountOne
namespace Go.Proofs.Qxb6000591a
open Go.RowKit Go.ChangeShapes Pl

theorem add_at (b off j : Nat) : (⟨b, off, none⟩ : Addr).add j = ⟨b, off + j, none⟩ := by unfold Addr.add; split <;> simp_all

set_option maxHeartbeats 400000 in
/-- The first k bytes, searched from the back for a newline. -/
theorem lastidx_any (g c n : Nat) (xs : List Int) (w : World) (hn : n ≤ 1048576) (hc : ∀ i, i < n → w.cell? ⟨g, i, none⟩ = some (.int .u8 (xs.getD i 0))) :
    Calls Try.prog 25 #[.slice (some ⟨g, 0, none⟩) n c, .int .u8 10] w fun e w' => e = .returned (.int .i64 (last xs n)) ∧ w' = w := by
  go_enter Try.func25, Try.ntmps25
  go_wp2
  go_loop [5] (fun i => ∃ k : Nat, k ≤ n ∧ i = .int .i64 ((k : Int) - 1) ∧ last xs n = last xs k) (fun i => (intOf i + 1).toNat)
  case atStart => exact ⟨n, Nat.le_refl _, rfl, rfl⟩
  case round =>
    obtain ⟨k, hk, rfl, hl⟩ := hrel
    have HL : Hid (last xs n = last xs k) := hl
    clear hl
    match k, hk, HL with
    | 0, hk, HL =>
      go_wp2
      go_ret
      exact ⟨by rw [HL.out]; rfl, rfl⟩
    | k + 1, hk, HL =>
      have hck := hc k (by omega)
      have e1 : ((k + 1 : Nat) : Int) - 1 = (k : Int) := by omega
      rw [e1]
      clear e1
      go_wp2
      · go_ret
        have hh : (xs.getD k 0 == 10) = true := by assumption
        exact ⟨by rw [HL.out, last_hit xs k (by simpa using hh)]; rfl, rfl⟩
      · go_round
        case rel =>
          have hh : (xs.getD k 0 == 10) = false := by assumption
          exact ⟨k, by omega, rfl, by rw [HL.out, last_miss xs k (by simpa using hh)]⟩
        case measure => simp [intOf]

set_option maxHeartbeats 400000 in
theorem lastbyte_any (g c n : Nat) (xs : List Int) (w : World) (hn : n ≤ 1048576) (hc : ∀ i, i < n → w.cell? ⟨g, i, none⟩ = some (.int .u8 (xs.getD i 0))) :
    Calls Try.prog 21 #[.slice (some ⟨g, 0, none⟩) n c, .int .u8 10] w fun e w' => e = .returned (.int .i64 (last xs n)) ∧ w' = w := by
  have hcon := lastidx_any g c n xs w hn hc
  clear hc
  go_enter Try.func21, Try.ntmps21
  go_wp2_with (go_at_call 25; refine hcon.mono ?_; rintro e w' ⟨rfl, rfl⟩)
  go_ret
  exact ⟨rfl, rfl⟩

set_option maxHeartbeats 400000 in
/-- nil: no newline. -/
theorem lastbyte_nil (w : World) :
    Calls Try.prog 21 #[.slice none 0 0, .int .u8 10] w fun e w' => e = .returned (.int .i64 (-1)) ∧ w' = w := by
  go_enter Try.func21, Try.ntmps21
  go_wp2
  refine wp_loop_rounds 1 ?_
  rw [rounds_succ]
  go_wp2
  go_ret
  exact ⟨rfl, rfl⟩

set_option maxHeartbeats 2000000 in
set_option maxRecDepth 1000000 in
theorem count_any (a : Addr) (n c b2 o2 d : Nat) (xs : List Int) (w : World) (hx : xs.length = n) (hc : ∀ i, i < n → w.cell? (a.add i) = some (.int .u8 (xs.getD i 0))) (hc2 : w.cell? ⟨b2, o2, none⟩ = some (.int .u8 10)) :
    Calls Try.prog 20 #[.slice (some a) n c, .slice (some ⟨b2, o2, none⟩) 1 d] w fun e w' => e = .returned (.int .i64 (Lib.countByte (Lib.bytesOf xs) 10)) ∧ w' = w := by
  go_enter Try.func20, Try.ntmps20
  go_wp2
  rw [run_callFunc_extern Try.func23 (by kernel_rfl) (by kernel_rfl) (by kernel_rfl) (e := Extern.BytealgCount.count) (by kernel_rfl), Lib.run_countAt w a n c xs hx hc 10]
  simp only [Result.andThen]
  rw [Oper.upon_value]
  go_wp2
  go_ret
  exact ⟨rfl, rfl⟩

set_option maxHeartbeats 2000000 in
set_option maxRecDepth 1000000 in
theorem count_nil (b2 o2 d : Nat) (w : World) (hc2 : w.cell? ⟨b2, o2, none⟩ = some (.int .u8 10)) :
    Calls Try.prog 20 #[.slice none 0 0, .slice (some ⟨b2, o2, none⟩) 1 d] w fun e w' => e = .returned (.int .i64 0) ∧ w' = w := by
  go_enter Try.func20, Try.ntmps20
  go_wp2
  rw [run_callFunc_extern Try.func23 (by kernel_rfl) (by kernel_rfl) (by kernel_rfl) (e := Extern.BytealgCount.count) (by kernel_rfl), Lib.run_countNil w 0 0 10]
  simp only [Result.andThen]
  rw [Oper.upon_value]
  go_wp2
  go_ret
  exact ⟨rfl, rfl⟩

theorem count_plain {n : Nat} {xs : List Int} (hxl : n ≤ xs.length) (hb : ∀ x ∈ xs, 0 ≤ x ∧ x < 256) : Lib.countByte (Lib.bytesOf (xs.take n)) 10 = cnt xs n := by
  have := cnt_count xs hb n hxl
  rw [← this]
  rfl

set_option maxHeartbeats 400000 in
/-- 'position' at whatever offset: k is the offset brought into the data. -/
theorem position_any (g c n k : Nat) (xs : List Int) (o : Int) (w : World) (hn : n ≤ 1048576) (hnc : n ≤ c) (hxl : xs.length = n) (hb : ∀ x ∈ xs, 0 ≤ x ∧ x < 256) (hkn : k ≤ n) (ho : min (max o 0) (n : Int) = (k : Int))
    (hc : ∀ i, i < n → w.cell? ⟨g, i, none⟩ = some (.int .u8 (xs.getD i 0))) :
    Calls Try.prog 19 #[.slice (some ⟨g, 0, none⟩) n c, .int .i64 o] w fun e w' => e = .returned (.tuple #[.int .i64 ((cnt xs k : Int) + 1), .int .i64 ((k : Int) - last xs k)]) ∧ Below w.heap.size w w' := by
  have kc := fun (w : World) (C : Array Value) (n c : Nat) => Lib.run_convert_bytes_const (P := Try.prog) w 24 5 C n c Try.underlying24 Try.underlying5
  have hcA : ∀ i, i < k → (w.alloc (.cells #[.int .u8 10] 5 (1, 2))).cell? ⟨g, i, none⟩ = some (.int .u8 (xs.getD i 0)) := fun i hi => Lib.cell?_alloc_marked _ (hc i (by omega))
  have h1 := count_any ⟨g, 0, none⟩ k c w.heap.size 0 1 (xs.take k) (w.alloc (.cells #[.int .u8 10] 5 (1, 2))) (by simp; omega)
    (fun i hi => by
      have e : (⟨g, 0, none⟩ : Addr).add i = ⟨g, i, none⟩ := by rw [add_at, Nat.zero_add]
      rw [e, hcA i hi]
      simp [List.getD, hi]) (by rw [World.cell?_alloc_mark]; rfl)
  rw [count_plain (by omega) hb] at h1
  have h2 := lastbyte_any g c k xs (w.alloc (.cells #[.int .u8 10] 5 (1, 2))) (by omega) hcA
  have hcl := cnt_le xs k
  have hlb := last_bd xs k
  clear hcA hc
  go_enter Try.func19, Try.ntmps19
  go_wp2_with (first | (go_at_call 20; refine h1.mono ?_; rintro e w' ⟨rfl, rfl⟩) | (go_at_call 21; refine h2.mono ?_; rintro e w' ⟨rfl, rfl⟩))
  go_ret2
  exact ⟨rfl, (Below.refl _ w).alloc (Nat.le_refl _) _⟩

set_option maxHeartbeats 400000 in
theorem position_nil (o : Int) (w : World) (ho : min (max o 0) (0 : Int) = 0) :
    Calls Try.prog 19 #[.slice none 0 0, .int .i64 o] w fun e w' => e = .returned (.tuple #[.int .i64 1, .int .i64 1]) ∧ Below w.heap.size w w' := by
  have kc := fun (w : World) (C : Array Value) (n c : Nat) => Lib.run_convert_bytes_const (P := Try.prog) w 24 5 C n c Try.underlying24 Try.underlying5
  have h1 := count_nil w.heap.size 0 1 (w.alloc (.cells #[.int .u8 10] 5 (1, 2))) (by rw [World.cell?_alloc_mark]; rfl)
  have h2 := lastbyte_nil (w.alloc (.cells #[.int .u8 10] 5 (1, 2)))
  go_enter Try.func19, Try.ntmps19
  go_wp2_with (first | (go_at_call 20; refine h1.mono ?_; rintro e w' ⟨rfl, rfl⟩) | (go_at_call 21; refine h2.mono ?_; rintro e w' ⟨rfl, rfl⟩))
  go_ret2
  exact ⟨rfl, (Below.refl _ w).alloc (Nat.le_refl _) _⟩

set_option maxHeartbeats 400000 in
theorem zzposition_any (g c n k : Nat) (xs : List Int) (o : Int) (w : World) (hn : n ≤ 1048576) (hnc : n ≤ c) (hxl : xs.length = n) (hb : ∀ x ∈ xs, 0 ≤ x ∧ x < 256) (hkn : k ≤ n) (ho : min (max o 0) (n : Int) = (k : Int))
    (hc : ∀ i, i < n → w.cell? ⟨g, i, none⟩ = some (.int .u8 (xs.getD i 0))) :
    Calls Try.prog 14 #[.slice (some ⟨g, 0, none⟩) n c, .int .i64 o] w fun e w' => e = .returned (.tuple #[.int .i64 ((cnt xs k : Int) + 1), .int .i64 ((k : Int) - last xs k)]) ∧ Below w.heap.size w w' := by
  have h1 := position_any g c n k xs o w hn hnc hxl hb hkn ho hc
  clear hc ho
  go_enter Try.func14, Try.ntmps14
  go_wp2_with (go_at_call 19; refine h1.mono ?_; rintro e w' ⟨rfl, hbel⟩)
  go_ret2
  exact ⟨rfl, hbel⟩

set_option maxHeartbeats 400000 in
theorem zzposition_nil (o : Int) (w : World) (ho : min (max o 0) (0 : Int) = 0) :
    Calls Try.prog 14 #[.slice none 0 0, .int .i64 o] w fun e w' => e = .returned (.tuple #[.int .i64 1, .int .i64 1]) ∧ Below w.heap.size w w' := by
  have h1 := position_nil o w ho
  clear ho
  go_enter Try.func14, Try.ntmps14
  go_wp2_with (go_at_call 19; refine h1.mono ?_; rintro e w' ⟨rfl, hbel⟩)
  go_ret2
  exact ⟨rfl, hbel⟩

theorem Try.info5 : (Try.prog.info? 5).map (fun i => (i.zero, i.size, i.bytes)) = some (some (.int .u8 0), 1, 1) := by kernel_rfl

theorem ints_spot {w : World} {a : Addr} {n : Nat} {xs : List Int} (h0 : 0 < n) (hc : ∀ i, i < n → w.cell? (a.add i) = some (.int .u8 (xs.getD i 0))) :
    ∃ b off, a = ⟨b, off, none⟩ ∧ (∀ i, i < n → w.cell? ⟨b, off + i, none⟩ = some (.int .u8 (xs.getD i 0))) ∧ b < w.heap.size := by
  obtain ⟨b, off, spot⟩ := a
  have hspot : spot = none := by simpa [Addr.add] using World.cell?_spot (hc 0 h0)
  subst hspot
  have hc' : ∀ i, i < n → w.cell? ⟨b, off + i, none⟩ = some (.int .u8 (xs.getD i 0)) := fun i hi => by rw [← add_at]; exact hc i hi
  refine ⟨b, off, rfl, hc', ?_⟩
  exact block_lt_of_cell (hc' 0 h0)

set_option maxHeartbeats 400000 in
/-- copyBytes of a slice that is not nil: a row of the call's own with the same bytes. -/
theorem copy_some (b off n c : Nat) (xs : List Int) (w : World) (hn : n ≤ 1048576) (hbw : b < w.heap.size)
    (hc : ∀ i, i < n → w.cell? ⟨b, off + i, none⟩ = some (.int .u8 (xs.getD i 0))) :
    Calls Try.prog 13 #[.slice (some ⟨b, off, none⟩) n c] w fun e w' => e = .returned (.slice (some ⟨w.heap.size, 0, none⟩) n n) ∧ (∀ i, i < n → w'.cell? ⟨w.heap.size, i, none⟩ = some (.int .u8 (xs.getD i 0))) ∧ w.heap.size < w'.heap.size ∧ Below w.heap.size w w' := by
  have q24 : ∀ (w : World) (a : Option Addr) (n c n' c' : Nat), (binOp .eql 24 (.slice a n c) (.slice none n' c')).run Try.prog w = .ok (.bool a.isNone) w := fun w a n c n' c' => Lib.run_eql_slice_nil w _ _ a n c n' c' Try.underlying24
  obtain ⟨i0, hi, hz0, hz1, hz2⟩ := info_parts Try.info5
  go_enter Try.func13, Try.ntmps13
  go_wp2_with (at_make; refine wpList_make_full _ rfl (.tmp 8) (.tmp 8) 24 rfl w.heap.size 5 i0 (.int .u8 0) 1 Try.underlying24 hi hz0 hz1 .i64 .i64 n n n rfl rfl rfl rfl (by rw [hz2]; omega) (by unfold maxLen; omega) (Nat.le_refl _) ?_; intro w1 hown hgrow)
  have hb1 : Below w.heap.size w w1 := (Below.refl _ w).grown hgrow (Nat.le_refl _) (by intro r hr; cases hr)
  have hs1 : w.heap.size < w1.heap.size := by
    rcases hown.2 with ⟨h', _⟩ | ⟨g', cap', cur, h', _, hg, _⟩
    · simp at h'
    · simp only [Value.slice.injEq, Option.some.injEq, Addr.mk.injEq, and_true, true_and] at h'
      obtain ⟨rfl, rfl⟩ := h'
      exact (Array.getElem?_eq_some_iff.1 hg).1
  go_loopw [4] (fun i wr => ∃ k : Nat, k ≤ n ∧ i = .int .i64 k ∧ Below w.heap.size w wr ∧ w.heap.size < wr.heap.size ∧ ∃ ys, wr.ownsRow w.heap.size 5 1 (.slice (some ⟨w.heap.size, 0, none⟩) n n) n ys ∧ ∀ j, j < k → ys[j]? = some (.int .u8 (xs.getD j 0))) (fun i _ => n - (intOf i).toNat)
  case atStart => exact ⟨0, Nat.zero_le _, rfl, hb1, hs1, _, hown, fun j hj => absurd hj (Nat.not_lt_zero _)⟩
  case round =>
    obtain ⟨k, hk, rfl, hbel, hsz, ys, hy, hys⟩ := hrel
    clear hown hgrow hb1 hs1
    by_cases hlt : k < n
    · have hcr : wr.cell? ⟨b, off + k, none⟩ = some (.int .u8 (xs.getD k 0)) := (hbel.cell (by exact hbw)).trans (hc k hlt)
      have hf := hy.frozenAt k
      have hyl : ys.length = n := by have := hy.1; omega
      have hcy : ∃ v, wr.cell? ⟨w.heap.size, k, none⟩ = some v := ⟨ys[k], by rw [hy.cellAt k (by omega)]; simp⟩
      obtain ⟨v0, hcy⟩ := hcy
      have st := hy.stored k (.int .u8 (xs.getD k 0))
      have R : Below w.heap.size w (wr.setCell ⟨w.heap.size, k, none⟩ (.int .u8 (xs.getD k 0))) := hbel.setCell (Nat.le_refl _) _
      have HS : Hid ((wr.setCell ⟨w.heap.size, k, none⟩ (.int .u8 (xs.getD k 0))).ownsRow w.heap.size 5 1 (.slice (some ⟨w.heap.size, 0, none⟩) n n) n (ys.set k (.int .u8 (xs.getD k 0)))) := st.1
      clear st
      go_wp2
      go_roundw
      case rel =>
        refine ⟨k + 1, by omega, by go_num, R, by simpa using hsz, _, HS.out, ?_⟩
        intro j hj
        by_cases hjk : j = k
        · subst hjk; rw [List.getElem?_set_self (by omega)]
        · rw [List.getElem?_set_ne (by omega)]; exact hys j (by omega)
      case measure => simp [intOf]; omega
    · have hkn : k = n := by omega
      go_wp2
      go_ret
      refine ⟨rfl, ?_, hsz, hbel⟩
      intro i hi'
      rw [hy.cellAt i (by omega)]
      exact hys i (by omega)

set_option maxHeartbeats 400000 in
/-- An empty slice that is not nil. -/
theorem copy_empty (a : Addr) (c : Nat) (w : World) :
    Calls Try.prog 13 #[.slice (some a) 0 c] w fun e w' => e = .returned (.slice (some ⟨w.heap.size, 0, none⟩) 0 0) ∧ w.heap.size < w'.heap.size ∧ Below w.heap.size w w' := by
  have q24 : ∀ (w : World) (a : Option Addr) (n c n' c' : Nat), (binOp .eql 24 (.slice a n c) (.slice none n' c')).run Try.prog w = .ok (.bool a.isNone) w := fun w a n c n' c' => Lib.run_eql_slice_nil w _ _ a n c n' c' Try.underlying24
  obtain ⟨i0, hi, hz0, hz1, hz2⟩ := info_parts Try.info5
  go_enter Try.func13, Try.ntmps13
  go_wp2_with (at_make; refine wpList_make_full _ rfl (.tmp 8) (.tmp 8) 24 rfl w.heap.size 5 i0 (.int .u8 0) 1 Try.underlying24 hi hz0 hz1 .i64 .i64 0 0 0 rfl rfl rfl rfl (by rw [hz2]; omega) (by unfold maxLen; omega) (Nat.le_refl _) ?_; intro w1 hown hgrow)
  have hb1 : Below w.heap.size w w1 := (Below.refl _ w).grown hgrow (Nat.le_refl _) (by intro r hr; cases hr)
  have hs1 : w.heap.size < w1.heap.size := by
    rcases hown.2 with ⟨h', _⟩ | ⟨g', cap', cur, h', _, hg, _⟩
    · simp at h'
    · simp only [Value.slice.injEq, Option.some.injEq, Addr.mk.injEq, and_true, true_and] at h'
      obtain ⟨rfl, rfl⟩ := h'
      exact (Array.getElem?_eq_some_iff.1 hg).1
  refine wp_loop_rounds 1 ?_
  rw [rounds_succ]
  go_wp2
  go_ret
  exact ⟨rfl, hs1, hb1⟩

set_option maxHeartbeats 400000 in
theorem copy_nil (w : World) :
    Calls Try.prog 13 #[.slice none 0 0] w fun e w' => e = .returned (.slice none 0 0) ∧ w' = w := by
  have q24 : ∀ (w : World) (a : Option Addr) (n c n' c' : Nat), (binOp .eql 24 (.slice a n c) (.slice none n' c')).run Try.prog w = .ok (.bool a.isNone) w := fun w a n c n' c' => Lib.run_eql_slice_nil w _ _ a n c n' c' Try.underlying24
  go_enter Try.func13, Try.ntmps13
  go_wp2
  go_ret
  exact ⟨rfl, rfl⟩

/-- copyBytes of whatever slice that is not nil. -/
theorem copy_any (a : Addr) (n c : Nat) (xs : List Int) (w : World) (hn : n ≤ 1048576)
    (hc : ∀ i, i < n → w.cell? (a.add i) = some (.int .u8 (xs.getD i 0))) :
    Calls Try.prog 13 #[.slice (some a) n c] w fun e w' => e = .returned (.slice (some ⟨w.heap.size, 0, none⟩) n n) ∧ (∀ i, i < n → w'.cell? ⟨w.heap.size, i, none⟩ = some (.int .u8 (xs.getD i 0))) ∧ w.heap.size < w'.heap.size ∧ Below w.heap.size w w' := by
  rcases Nat.eq_zero_or_pos n with rfl | h0
  · exact (copy_empty a c w).mono fun e w' h => ⟨h.1, fun i hi => absurd hi (Nat.not_lt_zero _), h.2⟩
  · obtain ⟨b, off, rfl, hc', hbw⟩ := ints_spot h0 hc
    exact copy_some b off n c xs w hn hbw hc'
end Go.Proofs.Qxb6000591a
