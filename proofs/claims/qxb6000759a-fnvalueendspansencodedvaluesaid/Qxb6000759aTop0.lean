/-
  The small functions that the law calls: the clones, the bounds, the terminator; encodeValue at a nil script.
-/
import Derived.Test.Qxb6000759aEnc
namespace Go.Proofs.Qxb6000759a
open Go.RowKit Pl

/-- The bytes of a slice that may lie anywhere; of one without elements nothing is said. -/
def BytesAt (w : World) (a : Option Addr) (n : Nat) (xs : List Int) : Prop := ∀ i, i < n → ∃ b off, a = some ⟨b, off, none⟩ ∧ b < w.heap.size ∧ w.cell? ⟨b, off + i, none⟩ = some (.int .u8 (xs.getD i 0))
def StrsAt (w : World) (a : Option Addr) (n : Nat) (ss : List ByteArray) : Prop := ∀ i, i < n → ∃ b off, a = some ⟨b, off, none⟩ ∧ b < w.heap.size ∧ w.cell? ⟨b, off + i, none⟩ = some (.string (ss.getD i ByteArray.empty))

theorem BytesAt.later {w w' : World} {a : Option Addr} {n : Nat} {xs : List Int} (h : BytesAt w a n xs) (hb : Below w.heap.size w w') : BytesAt w' a n xs := fun i hi => by
  obtain ⟨b, off, h1, h2, h3⟩ := h i hi
  exact ⟨b, off, h1, Nat.lt_of_lt_of_le h2 hb.size, (hb.cell (by exact h2)).trans h3⟩
theorem StrsAt.later {w w' : World} {a : Option Addr} {n : Nat} {xs : List ByteArray} (h : StrsAt w a n xs) (hb : Below w.heap.size w w') : StrsAt w' a n xs := fun i hi => by
  obtain ⟨b, off, h1, h2, h3⟩ := h i hi
  exact ⟨b, off, h1, Nat.lt_of_lt_of_le h2 hb.size, (hb.cell (by exact h2)).trans h3⟩

/-- A clone: nil, or at the head of a new block. -/
def Cloned (w : World) (a : Option Addr) (n c : Nat) : Prop := (a = none ∧ n = 0 ∧ c = 0) ∨ ∃ g, a = some ⟨g, 0, none⟩ ∧ n ≤ c ∧ g < w.heap.size
def BClone (w : World) (n : Nat) (xs : List Int) (e : Ending) (w' : World) : Prop := ∃ a c, e = .returned (.slice a n c) ∧ Cloned w' a n c ∧ BytesAt w' a n xs ∧ Below w.heap.size w w'
def SClone (w : World) (n : Nat) (ss : List ByteArray) (e : Ending) (w' : World) : Prop := ∃ a c, e = .returned (.slice a n c) ∧ Cloned w' a n c ∧ StrsAt w' a n ss ∧ Below w.heap.size w w'

theorem made_size {w w1 : World} {e n : Nat} {xs : List Value} (hown : w1.ownsRow w.heap.size e 1 (.slice (some ⟨w.heap.size, 0, none⟩) n n) n xs) : w.heap.size < w1.heap.size := (hown.lt w.heap.size rfl).2

set_option maxHeartbeats 1000000 in
theorem clone_some (a : Addr) (n c : Nat) (xs : List Int) (w : World) (hn : n ≤ 1048576) (hc : BytesAt w (some a) n xs) :
    Calls Try.prog 21 #[.slice (some a) n c] w (BClone w n xs) := by
  have q24 : ∀ (w : World) (a : Option Addr) (n c n' c' : Nat), (binOp .eql 24 (.slice a n c) (.slice none n' c')).run Try.prog w = .ok (.bool a.isNone) w := fun w a n c n' c' => Lib.run_eql_slice_nil w _ _ a n c n' c' Try.underlying24
  obtain ⟨i0, hi, hz0, hz1, hz2⟩ := info_parts Try.info5
  have HC : Hid (BytesAt w (some a) n xs) := hc
  clear hc
  go_enter Try.func21, Try.ntmps21
  go_wp2_with (at_make; refine wpList_make_full _ rfl (.tmp 8) (.tmp 8) 24 rfl w.heap.size 5 i0 (.int .u8 0) 1 Try.underlying24 hi hz0 hz1 .i64 .i64 n n n rfl rfl rfl rfl (by rw [hz2]; omega) (by unfold maxLen; omega) (Nat.le_refl _) ?_; intro w1 hown hgrow)
  have hb1 : Below w.heap.size w w1 := (Below.refl _ w).grown hgrow (Nat.le_refl _) (by intro r hr; cases hr)
  go_loopw [4] (fun i wr => ∃ k : Nat, k ≤ n ∧ i = .int .i64 (k : Int) ∧ Below w.heap.size w wr ∧ ∃ ys, wr.ownsRow w.heap.size 5 1 (.slice (some ⟨w.heap.size, 0, none⟩) n n) n ys ∧ ∀ j, j < k → ys[j]? = some (.int .u8 (xs.getD j 0))) (fun i _ => n - (intOf i).toNat)
  case atStart => exact ⟨0, Nat.zero_le _, rfl, hb1, _, hown, fun j hj => absurd hj (Nat.not_lt_zero _)⟩
  case round =>
    clear hown hgrow hb1
    obtain ⟨k, hk, rfl, hbel, ys, hy, hys⟩ := hrel
    by_cases hlt : k < n
    · obtain ⟨b, off, hab, hbw, hcell⟩ := HC.out k hlt
      have hab := Option.some.inj hab
      subst hab
      have hcr : wr.cell? ⟨b, off + k, none⟩ = some (.int .u8 (xs.getD k 0)) := (hbel.cell (by exact hbw)).trans hcell
      have hf := hy.frozenAt k
      have hyl : ys.length = n := by have := hy.1; omega
      obtain ⟨v0, hcy⟩ : ∃ v, wr.cell? ⟨w.heap.size, k, none⟩ = some v := ⟨ys[k], by rw [hy.cellAt k (by omega)]; simp⟩
      have st := hy.stored k (.int .u8 (xs.getD k 0))
      have R : Below w.heap.size w (wr.setCell ⟨w.heap.size, k, none⟩ (.int .u8 (xs.getD k 0))) := hbel.setCell (Nat.le_refl _) _
      have HS : Hid ((wr.setCell ⟨w.heap.size, k, none⟩ (.int .u8 (xs.getD k 0))).ownsRow w.heap.size 5 1 (.slice (some ⟨w.heap.size, 0, none⟩) n n) n (ys.set k (.int .u8 (xs.getD k 0)))) := st.1
      clear st hcell
      go_wp2
      go_roundw
      case rel =>
        refine ⟨k + 1, by omega, by go_num, R, _, HS.out, ?_⟩
        intro j hj
        by_cases hjk : j = k
        · subst hjk; rw [List.getElem?_set_self (by omega)]
        · rw [List.getElem?_set_ne (by omega)]; exact hys j (by omega)
      case measure => simp [intOf]; omega
    · have hkn : k = n := by omega
      go_wp2
      go_ret
      refine ⟨some ⟨w.heap.size, 0, none⟩, n, rfl, .inr ⟨_, rfl, Nat.le_refl _, made_size hy⟩, ?_, hbel⟩
      intro i hi'
      refine ⟨w.heap.size, 0, rfl, made_size hy, ?_⟩
      rw [Nat.zero_add, hy.cellAt i (by omega)]
      exact hys i (by omega)

set_option maxHeartbeats 400000 in
theorem clone_nil (xs : List Int) (w : World) : Calls Try.prog 21 #[.slice none 0 0] w (BClone w 0 xs) := by
  have q24 : ∀ (w : World) (a : Option Addr) (n c n' c' : Nat), (binOp .eql 24 (.slice a n c) (.slice none n' c')).run Try.prog w = .ok (.bool a.isNone) w := fun w a n c n' c' => Lib.run_eql_slice_nil w _ _ a n c n' c' Try.underlying24
  go_enter Try.func21, Try.ntmps21
  go_wp2
  go_ret
  exact ⟨none, 0, rfl, .inl ⟨rfl, rfl, rfl⟩, fun i hi => absurd hi (Nat.not_lt_zero _), Below.refl _ _⟩

theorem clone_any (a : Option Addr) (n c : Nat) (xs : List Int) (w : World) (hn : n ≤ 1048576) (h0 : a = none → n = 0 ∧ c = 0) (hc : BytesAt w a n xs) :
    Calls Try.prog 21 #[.slice a n c] w (BClone w n xs) := by
  cases a with
  | none =>
    obtain ⟨rfl, rfl⟩ := h0 rfl
    exact clone_nil xs w
  | some ad => exact clone_some ad n c xs w hn hc

theorem Try.info9 : (Try.prog.info? 9).map (fun i => (i.zero, i.size, i.bytes)) = some (some (.string ByteArray.empty), 1, 16) := by kernel_rfl

set_option maxHeartbeats 1000000 in
theorem sclone_some (a : Addr) (n c : Nat) (xs : List ByteArray) (w : World) (hn : n ≤ 1048576) (hc : StrsAt w (some a) n xs) :
    Calls Try.prog 22 #[.slice (some a) n c] w (SClone w n xs) := by
  have q24 : ∀ (w : World) (a : Option Addr) (n c n' c' : Nat), (binOp .eql 31 (.slice a n c) (.slice none n' c')).run Try.prog w = .ok (.bool a.isNone) w := fun w a n c n' c' => Lib.run_eql_slice_nil w _ _ a n c n' c' Try.underlying31
  obtain ⟨i0, hi, hz0, hz1, hz2⟩ := info_parts Try.info9
  have HC : Hid (StrsAt w (some a) n xs) := hc
  clear hc
  go_enter Try.func22, Try.ntmps22
  go_wp2_with (at_make; refine wpList_make_full _ rfl (.tmp 8) (.tmp 8) 31 rfl w.heap.size 9 i0 (.string ByteArray.empty) 1 Try.underlying31 hi hz0 hz1 .i64 .i64 n n n rfl rfl rfl rfl (by rw [hz2]; omega) (by unfold maxLen; omega) (Nat.le_refl _) ?_; intro w1 hown hgrow)
  have hb1 : Below w.heap.size w w1 := (Below.refl _ w).grown hgrow (Nat.le_refl _) (by intro r hr; cases hr)
  go_loopw [4] (fun i wr => ∃ k : Nat, k ≤ n ∧ i = .int .i64 (k : Int) ∧ Below w.heap.size w wr ∧ ∃ ys, wr.ownsRow w.heap.size 9 1 (.slice (some ⟨w.heap.size, 0, none⟩) n n) n ys ∧ ∀ j, j < k → ys[j]? = some (.string (xs.getD j ByteArray.empty))) (fun i _ => n - (intOf i).toNat)
  case atStart => exact ⟨0, Nat.zero_le _, rfl, hb1, _, hown, fun j hj => absurd hj (Nat.not_lt_zero _)⟩
  case round =>
    clear hown hgrow hb1
    obtain ⟨k, hk, rfl, hbel, ys, hy, hys⟩ := hrel
    by_cases hlt : k < n
    · obtain ⟨b, off, hab, hbw, hcell⟩ := HC.out k hlt
      have hab := Option.some.inj hab
      subst hab
      obtain ⟨sv, hsv⟩ : ∃ sv, sv = xs.getD k ByteArray.empty := ⟨_, rfl⟩
      rw [← hsv] at hcell
      have HSV : Hid (sv = xs.getD k ByteArray.empty) := hsv
      clear hsv
      have hcr : wr.cell? ⟨b, off + k, none⟩ = some (.string sv) := (hbel.cell (by exact hbw)).trans hcell
      have hf := hy.frozenAt k
      have hyl : ys.length = n := by have := hy.1; omega
      obtain ⟨v0, hcy⟩ : ∃ v, wr.cell? ⟨w.heap.size, k, none⟩ = some v := ⟨ys[k], by rw [hy.cellAt k (by omega)]; simp⟩
      have st := hy.stored k (.string sv)
      have R : Below w.heap.size w (wr.setCell ⟨w.heap.size, k, none⟩ (.string sv)) := hbel.setCell (Nat.le_refl _) _
      have HS : Hid ((wr.setCell ⟨w.heap.size, k, none⟩ (.string sv)).ownsRow w.heap.size 9 1 (.slice (some ⟨w.heap.size, 0, none⟩) n n) n (ys.set k (.string sv))) := st.1
      clear st hcell
      go_wp2
      go_roundw
      case rel =>
        refine ⟨k + 1, by omega, by go_num, R, _, HS.out, ?_⟩
        intro j hj
        by_cases hjk : j = k
        · subst hjk; rw [List.getElem?_set_self (by omega), HSV.out]
        · rw [List.getElem?_set_ne (by omega)]; exact hys j (by omega)
      case measure => simp [intOf]; omega
    · have hkn : k = n := by omega
      go_wp2
      go_ret
      refine ⟨some ⟨w.heap.size, 0, none⟩, n, rfl, .inr ⟨_, rfl, Nat.le_refl _, made_size hy⟩, ?_, hbel⟩
      intro i hi'
      refine ⟨w.heap.size, 0, rfl, made_size hy, ?_⟩
      rw [Nat.zero_add, hy.cellAt i (by omega)]
      exact hys i (by omega)

set_option maxHeartbeats 400000 in
theorem sclone_nil (xs : List ByteArray) (w : World) : Calls Try.prog 22 #[.slice none 0 0] w (SClone w 0 xs) := by
  have q24 : ∀ (w : World) (a : Option Addr) (n c n' c' : Nat), (binOp .eql 31 (.slice a n c) (.slice none n' c')).run Try.prog w = .ok (.bool a.isNone) w := fun w a n c n' c' => Lib.run_eql_slice_nil w _ _ a n c n' c' Try.underlying31
  go_enter Try.func22, Try.ntmps22
  go_wp2
  go_ret
  exact ⟨none, 0, rfl, .inl ⟨rfl, rfl, rfl⟩, fun i hi => absurd hi (Nat.not_lt_zero _), Below.refl _ _⟩

theorem sclone_any (a : Option Addr) (n c : Nat) (xs : List ByteArray) (w : World) (hn : n ≤ 1048576) (h0 : a = none → n = 0 ∧ c = 0) (hc : StrsAt w a n xs) :
    Calls Try.prog 22 #[.slice a n c] w (SClone w n xs) := by
  cases a with
  | none =>
    obtain ⟨rfl, rfl⟩ := h0 rfl
    exact sclone_nil xs w
  | some ad => exact sclone_some ad n c xs w hn hc

/-- terminatorOf: a byte that may follow a value, or none. -/
def TPost (w : World) (e : Ending) (w' : World) : Prop := w' = w ∧ ((∃ t : Int, e = .returned (.tuple #[.int .u8 t, .bool true]) ∧ isTerm t = true) ∨ e = .returned (.tuple #[.int .u8 0, .bool false]))
set_option maxHeartbeats 1000000 in
theorem term_any (v : Int) (w : World) (h0 : 0 ≤ v) (h1 : v < 256) : Calls Try.prog 24 #[.int .u8 v] w (TPost w) := by
  obtain ⟨m, hm⟩ : ∃ m, m = v % 8 := ⟨_, rfl⟩
  have hr : m = 0 ∨ m = 1 ∨ m = 2 ∨ m = 3 ∨ m = 4 ∨ m = 5 ∨ m = 6 ∨ m = 7 := by omega
  have HM : Hid (m = v % 8) := hm
  clear hm
  go_enter Try.func24, Try.ntmps24
  go_upto_region 2 with fail
  rw [← HM.out]
  clear HM
  rcases hr with rfl | rfl | rfl | rfl | rfl | rfl | rfl | rfl
  all_goals
    go_wp2
    go_ret2
    exact ⟨rfl, by first | exact .inr rfl | exact .inl ⟨_, rfl, by decide⟩⟩

/-- stringsFit answers a bool. -/
def FPost (w : World) (e : Ending) (w' : World) : Prop := w' = w ∧ ∃ b : Bool, e = .returned (.bool b)
set_option maxHeartbeats 1000000 in
theorem fit_any (base : Int) (sa : Option Addr) (m ct : Nat) (ss : List ByteArray) (w : World) (hb0 : 0 ≤ base) (hb1 : base ≤ 1048576) (hm : m ≤ 1048576) (hc : StrsAt w sa m ss) (hs : ∀ i, i < m → (ss.getD i ByteArray.empty).size ≤ 1048576) :
    Calls Try.prog 20 #[.int .i64 base, .slice sa m ct] w (FPost w) := by
  have HC : Hid (StrsAt w sa m ss ∧ ∀ i, i < m → (ss.getD i ByteArray.empty).size ≤ 1048576) := ⟨hc, hs⟩
  clear hc hs
  by_cases hbig : 1048576 < base + 16 * (m : Int)
  · go_enter Try.func20, Try.ntmps20
    go_wp2
    go_ret
    exact ⟨rfl, _, rfl⟩
  · go_enter Try.func20, Try.ntmps20
    go_wp2
    go_loop [5, 6] (fun t i => ∃ (k : Nat) (tt : Int), k ≤ m ∧ i = .int .i64 (k : Int) ∧ t = .int .i64 tt ∧ 0 ≤ tt ∧ tt ≤ 1048576) (fun _ i => m - (intOf i).toNat)
    case atStart => exact ⟨0, base + 16 * (m : Int), Nat.zero_le _, rfl, rfl, by omega, by omega⟩
    case round =>
      obtain ⟨k, tt, hk, rfl, rfl, ht0, ht1⟩ := hrel
      by_cases hlt : k < m
      · obtain ⟨b, off, hsa, hbw, hcell⟩ := HC.out.1 k hlt
        have hsz := HC.out.2 k hlt
        subst hsa
        generalize ss.getD k ByteArray.empty = sv at hcell hsz
        by_cases hover : 1048576 - tt < (sv.size : Int)
        · go_wp2
          go_ret
          exact ⟨rfl, _, rfl⟩
        · go_wp2
          go_round
          case rel => exact ⟨k + 1, tt + sv.size, by omega, by go_num, rfl, by omega, by omega⟩
          case measure => simp [intOf]; omega
      · go_wp2
        go_ret
        exact ⟨rfl, _, rfl⟩

set_option maxHeartbeats 1000000 in
set_option maxRecDepth 100000 in
theorem encode_nil (m ct : Nat) (sa : Option Addr) (w : World) : Calls Try.prog 23 #[.slice none 0 0, .slice sa m ct] w (EPost w) := by
  have kc := fun (w : World) (C : Array Value) (n c : Nat) => Lib.run_convert_bytes_const (P := Try.prog) w 24 5 C n c Try.underlying24 Try.underlying5
  have hb : Below w.heap.size w (((w.alloc (.cells #[] 5)).alloc (.cells #[] 5)).alloc (.cells #[] 4)) := (((Below.refl _ w).alloc (Nat.le_refl _) _).alloc (by simp) _).alloc (by simp; omega) _
  have hs : w.heap.size ≤ (((w.alloc (.cells #[] 5)).alloc (.cells #[] 5)).alloc (.cells #[] 4)).heap.size := by simp; omega
  have HB : Hid (Below w.heap.size w (((w.alloc (.cells #[] 5)).alloc (.cells #[] 5)).alloc (.cells #[] 4)) ∧ w.heap.size ≤ (((w.alloc (.cells #[] 5)).alloc (.cells #[] 5)).alloc (.cells #[] 4)).heap.size) := ⟨hb, hs⟩
  clear hb hs
  go_enter Try.func23, Try.ntmps23
  go_wp2
  generalize ((w.alloc (.cells #[] 5)).alloc (.cells #[] 5)).alloc (.cells #[] 4) = wr at HB ⊢
  refine wp_loop_rounds 1 ?_
  rw [rounds_succ]
  go_wp2
  go_ret
  exact null_post HB.out.1 HB.out.2

/-- encodeValue at whatever clones. -/
theorem encode_any (a sa : Option Addr) (n cp m ct : Nat) (xs : List Int) (ss : List ByteArray) (w : World) (hn : n ≤ 1048576) (hm : m ≤ 1048576) (hxb : ∀ i, i < n → 0 ≤ xs.getD i 0 ∧ xs.getD i 0 < 256)
    (ha : Cloned w a n cp) (hsa : Cloned w sa m ct) (hc : BytesAt w a n xs) (hsc : StrsAt w sa m ss) (hss : ∀ i, i < m → (ss.getD i ByteArray.empty).size ≤ 1048576) :
    Calls Try.prog 23 #[.slice a n cp, .slice sa m ct] w (EPost w) := by
  rcases ha with ⟨rfl, rfl, rfl⟩ | ⟨g, rfl, hnc, hg⟩
  · exact encode_nil m ct sa w
  · refine encode_some g cp n m ct sa xs ss w hn hm hxb hg (fun i hi => ?_) hss (fun i hi => ?_)
    · obtain ⟨b, off, h1, h2, h3⟩ := hc i hi
      have h1 := Option.some.inj h1
      simp only [Addr.mk.injEq, and_true] at h1
      obtain ⟨rfl, rfl⟩ := h1
      simpa using h3
    · obtain ⟨b, off, h1, h2, h3⟩ := hsc i hi
      rcases hsa with ⟨h, _⟩ | ⟨g', h, _, _⟩
      · rw [h] at h1; cases h1
      · rw [h] at h1
        have h1 := Option.some.inj h1
        simp only [Addr.mk.injEq, and_true] at h1
        obtain ⟨rfl, rfl⟩ := h1
        exact ⟨g', h, h2, by simpa using h3⟩

/-- The bound on all lengths: a bool; where it is true, each length is at most 2^20. -/
def ZPost (p n m r : Nat) (ss : List ByteArray) (w : World) (e : Ending) (w' : World) : Prop :=
  w' = w ∧ ((e = .returned (.bool true) ∧ p ≤ 1048576 ∧ n ≤ 1048576 ∧ m ≤ 1048576 ∧ r ≤ 1048576 ∧ ∀ i, i < m → (ss.getD i ByteArray.empty).size ≤ 1048576) ∨ e = .returned (.bool false))

set_option maxHeartbeats 1000000 in
set_option maxRecDepth 100000 in
theorem zz_any (ap ao sa ar : Option Addr) (p cp n co m ct r cr : Nat) (t : Int) (ss : List ByteArray) (w : World) (hc : StrsAt w sa m ss) :
    Calls Try.prog 19 #[.slice ap p cp, .slice ao n co, .slice sa m ct, .int .u8 t, .slice ar r cr] w (ZPost p n m r ss w) := by
  have HC : Hid (StrsAt w sa m ss) := hc
  clear hc
  by_cases hp : p ≤ 1048576
  · by_cases hn : n ≤ 1048576
    · by_cases hpn : p + n ≤ 1048576
      · by_cases hm : m ≤ 1048576
        · by_cases hpm : p + n + m ≤ 1048576
          · go_enter Try.func19, Try.ntmps19
            go_wp2
            go_loop [11, 12] (fun z i => ∃ (k : Nat) (zz : Int), k ≤ m ∧ i = .int .i64 (k : Int) ∧ z = .int .i64 zz ∧ 0 ≤ zz ∧ zz ≤ 1048576 ∧ Hid (∀ i, i < k → (ss.getD i ByteArray.empty).size ≤ 1048576)) (fun _ i => m - (intOf i).toNat)
            case atStart => exact ⟨0, (p : Int) + n + m, Nat.zero_le _, rfl, rfl, by omega, by omega, fun i hi => absurd hi (Nat.not_lt_zero _)⟩
            case round =>
              obtain ⟨k, zz, hk, rfl, rfl, hz0, hz1, HS⟩ := hrel
              by_cases hlt : k < m
              · obtain ⟨b, off, hsa, hbw, hcell⟩ := HC.out k hlt
                subst hsa
                obtain ⟨sv, hsv⟩ : ∃ sv, sv = ss.getD k ByteArray.empty := ⟨_, rfl⟩
                rw [← hsv] at hcell
                have HSV : Hid (sv = ss.getD k ByteArray.empty) := hsv
                clear hsv
                by_cases hs1 : sv.size ≤ 1048576
                · by_cases hs2 : zz + (sv.size : Int) ≤ 1048576
                  · go_wp2
                    go_round
                    case rel =>
                      refine ⟨k + 1, zz + sv.size, by omega, by go_num, rfl, by omega, by omega, fun i hi => ?_⟩
                      by_cases hik : i = k
                      · subst hik; rw [← HSV.out]; exact hs1
                      · exact HS.out i (by omega)
                    case measure => simp [intOf]; omega
                  · go_wp2
                    go_ret
                    exact ⟨rfl, .inr rfl⟩
                · go_wp2
                  go_ret
                  exact ⟨rfl, .inr rfl⟩
              · have hkm : k = m := by omega
                subst hkm
                by_cases hr1 : r ≤ 1048576
                · by_cases hr2 : zz + (r : Int) ≤ 1048576
                  · go_wp2
                    go_ret
                    exact ⟨rfl, .inl ⟨rfl, hp, hn, hm, hr1, HS.out⟩⟩
                  · go_wp2
                    go_ret
                    exact ⟨rfl, .inr rfl⟩
                · go_wp2
                  go_ret
                  exact ⟨rfl, .inr rfl⟩
          · go_enter Try.func19, Try.ntmps19
            go_wp2
            go_ret
            exact ⟨rfl, .inr rfl⟩
        · go_enter Try.func19, Try.ntmps19
          go_wp2
          go_ret
          exact ⟨rfl, .inr rfl⟩
      · go_enter Try.func19, Try.ntmps19
        go_wp2
        go_ret
        exact ⟨rfl, .inr rfl⟩
    · go_enter Try.func19, Try.ntmps19
      go_wp2
      go_ret
      exact ⟨rfl, .inr rfl⟩
  · go_enter Try.func19, Try.ntmps19
    go_wp2
    go_ret
    exact ⟨rfl, .inr rfl⟩
end Go.Proofs.Qxb6000759a
