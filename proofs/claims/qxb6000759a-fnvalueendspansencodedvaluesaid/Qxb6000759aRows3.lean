/-
  What encodeValue holds in memory: three rows of its own (the text, the stack of open containers, the flags); how each step turns them. closerOf, jsonLiteral.
-/
import Derived.Test.Qxb6000759aApd
import Derived.Deep.AppendSrc
namespace Go.Proofs.Qxb6000759a
open Go.RowKit Pl

theorem Try.info4 : (Try.prog.info? 4).map (fun i => (i.zero, i.size, i.bytes)) = some (some (.bool false), 1, 1) := by kernel_rfl

/-- A row of flags that is the call's own. -/
structure OwnF (B : Nat) (w : World) (g l c : Nat) (F : List Bool) : Prop where
  row : w.ownsRow B 4 1 (.slice (some ⟨g, 0, none⟩) l c) l (F.map Value.bool)

theorem OwnF.len {B : Nat} {w : World} {g l c : Nat} {F : List Bool} (h : OwnF B w g l c F) : F.length = l := by
  have := h.row.1
  simpa using this
theorem OwnF.ge {B : Nat} {w : World} {g l c : Nat} {F : List Bool} (h : OwnF B w g l c F) : B ≤ g ∧ g < w.heap.size := h.row.lt g rfl
theorem OwnF.cell {B : Nat} {w : World} {g l c : Nat} {F : List Bool} (h : OwnF B w g l c F) (i : Nat) (hi : i < l) : w.cell? ⟨g, i, none⟩ = some (.bool (F.getD i false)) := by
  have hl := h.len
  rw [h.row.cellAt i (by omega)]
  have : i < F.length := by omega
  simp [List.getD, this]

theorem row_cap {B e : Nat} {w : World} {g l c : Nat} {xs : List Value} (h : w.ownsRow B e 1 (.slice (some ⟨g, 0, none⟩) l c) l xs) : l ≤ c := by
  rcases h.2 with ⟨h', _⟩ | ⟨g', cap', cur, h', hb, hg, hnc, hcm, hcs, htake⟩
  · simp at h'
  · simp only [Value.slice.injEq, Option.some.injEq, Addr.mk.injEq, and_true, true_and] at h'
    obtain ⟨rfl, rfl⟩ := h'
    exact hnc
theorem Own.cap {B : Nat} {w : World} {g l c : Nat} {O : List Int} (h : Own B w g l c O) : l ≤ c := row_cap h.row
theorem OwnF.cap {B : Nat} {w : World} {g l c : Nat} {F : List Bool} (h : OwnF B w g l c F) : l ≤ c := row_cap h.row

theorem row_take {B e : Nat} {w : World} {g l c : Nat} {xs : List Value} (h : w.ownsRow B e 1 (.slice (some ⟨g, 0, none⟩) l c) l xs) (k : Nat) (hk : k ≤ l) : w.ownsRow B e 1 (.slice (some ⟨g, 0, none⟩) k c) k (xs.take k) := by
  have hlen := h.1
  rcases h.2 with ⟨h', _⟩ | ⟨g', cap', cur, h', hb, hg, hnc, hcm, hcs, htake⟩
  · simp at h'
  · simp only [Value.slice.injEq, Option.some.injEq, Addr.mk.injEq, and_true, true_and] at h'
    obtain ⟨rfl, rfl⟩ := h'
    refine ⟨by simp; omega, .inr ⟨g, c, cur, rfl, hb, hg, by omega, hcm, hcs, ?_⟩⟩
    rw [← htake, List.take_take]
    congr 1
    omega
theorem Own.take {B : Nat} {w : World} {g l c : Nat} {O : List Int} (h : Own B w g l c O) (k : Nat) (hk : k ≤ l) : Own B w g k c (O.take k) := by
  refine ⟨?_, fun x hx => h.byte x (List.mem_of_mem_take hx)⟩
  rw [List.map_take]
  exact row_take h.row k hk
theorem OwnF.take {B : Nat} {w : World} {g l c : Nat} {F : List Bool} (h : OwnF B w g l c F) (k : Nat) (hk : k ≤ l) : OwnF B w g k c (F.take k) := by
  refine ⟨?_⟩
  rw [List.map_take]
  exact row_take h.row k hk

structure Rows3 (B : Nat) (w wr : World) (go lo co gs ls cs gf lf cf : Nat) (O S : List Int) (F : List Bool) : Prop where
  o : Own B wr go lo co O
  s : Own B wr gs ls cs S
  f : OwnF B wr gf lf cf F
  os : go ≠ gs
  ff : go ≠ gf
  sf : gs ≠ gf
  bel : Below B w wr
  size : B ≤ wr.heap.size

section
variable {B : Nat} {w wr : World} {go lo co gs ls cs gf lf cf : Nat} {O S : List Int} {F : List Bool}

theorem Own.kept {w' : World} {g l c r : Nat} {O : List Int} (h : Own B wr g l c O) (hg : wr.grownBy w' (some r)) (hne : g ≠ r) : Own B w' g l c O :=
  ⟨h.row.kept hg (.inr (fun e => hne (Option.some.inj e))), h.byte⟩
theorem OwnF.kept {w' : World} {g l c r : Nat} {F : List Bool} (h : OwnF B wr g l c F) (hg : wr.grownBy w' (some r)) (hne : g ≠ r) : OwnF B w' g l c F :=
  ⟨h.row.kept hg (.inr (fun e => hne (Option.some.inj e)))⟩

theorem Rows3.out {w' : World} {g' l' c' : Nat} {O' : List Int} (R : Rows3 B w wr go lo co gs ls cs gf lf cf O S F) (ho : Own B w' g' l' c' O') (hc : Chg wr w' go g') : Rows3 B w w' g' l' c' gs ls cs gf lf cf O' S F := by
  have h1 := R.s.ge
  have h2 := R.f.ge
  have h3 := R.o.ge
  refine ⟨ho, R.s.kept hc.grown (fun e => R.os e.symm), R.f.kept hc.grown (fun e => R.ff e.symm), ?_, ?_, R.sf, hc.below R.bel R.size h3.1, by have := hc.size; have := R.size; omega⟩
  · rcases hc.lies with h | h
    · rw [h]; exact R.os
    · omega
  · rcases hc.lies with h | h
    · rw [h]; exact R.ff
    · omega
theorem Rows3.stack {w' : World} {g' l' c' : Nat} {S' : List Int} (R : Rows3 B w wr go lo co gs ls cs gf lf cf O S F) (ho : Own B w' g' l' c' S') (hc : Chg wr w' gs g') : Rows3 B w w' go lo co g' l' c' gf lf cf O S' F := by
  have h1 := R.o.ge
  have h2 := R.f.ge
  have h3 := R.s.ge
  refine ⟨R.o.kept hc.grown R.os, ho, R.f.kept hc.grown (fun e => R.sf e.symm), ?_, R.ff, ?_, hc.below R.bel R.size h3.1, by have := hc.size; have := R.size; omega⟩
  · rcases hc.lies with h | h
    · rw [h]; exact R.os
    · omega
  · rcases hc.lies with h | h
    · rw [h]; exact R.sf
    · omega
theorem Rows3.flags {w' : World} {g' l' c' : Nat} {F' : List Bool} (R : Rows3 B w wr go lo co gs ls cs gf lf cf O S F) (ho : OwnF B w' g' l' c' F') (hc : Chg wr w' gf g') : Rows3 B w w' go lo co gs ls cs g' l' c' O S F' := by
  have h1 := R.o.ge
  have h2 := R.s.ge
  have h3 := R.f.ge
  refine ⟨R.o.kept hc.grown R.ff, R.s.kept hc.grown R.sf, ho, R.os, ?_, ?_, hc.below R.bel R.size h3.1, by have := hc.size; have := R.size; omega⟩
  · rcases hc.lies with h | h
    · rw [h]; exact R.ff
    · omega
  · rcases hc.lies with h | h
    · rw [h]; exact R.sf
    · omega
theorem Rows3.pop (R : Rows3 B w wr go lo co gs ls cs gf lf cf O S F) (k m : Nat) (hk : k ≤ ls) (hm : m ≤ lf) : Rows3 B w wr go lo co gs k cs gf m cf O (S.take k) (F.take m) :=
  ⟨R.o, R.s.take k hk, R.f.take m hm, R.os, R.ff, R.sf, R.bel, R.size⟩
theorem Rows3.mark (R : Rows3 B w wr go lo co gs ls cs gf lf cf O S F) (k : Nat) (v : Bool) : Rows3 B w (wr.setCell ⟨gf, k, none⟩ (.bool v)) go lo co gs ls cs gf lf cf O S (F.set k v) := by
  have st := R.f.row.stored k (.bool v)
  have hc : Chg wr (wr.setCell ⟨gf, k, none⟩ (.bool v)) gf gf := ⟨st.2, .inl rfl⟩
  exact R.flags ⟨by rw [List.map_set]; exact st.1⟩ hc
end

/-- 'filled = append(filled, false)'. -/
theorem wpList_pushF {ops : Array Oper} {rest : List Oper} {o : Oper} {a : Act} {Q : Exit → Act → World → Prop} (w : World) (hgd : o.guard = none) (s x : Operand)
    (ho : o.op = .call { callee := .builtin .append, args := #[s, x], argTypes := #[47, 47] })
    (B g l c : Nat) (F : List Bool) (hs : a.eval s = .slice (some ⟨g, 0, none⟩) l c) (hown : OwnF B w g l c F)
    (hx : a.eval x = .slice (some ⟨w.heap.size, 0, none⟩) 1 1) (hb : l + 1 ≤ 140737488355328) (hB : B ≤ w.heap.size)
    (h : ∀ g' c' w', OwnF B w' g' (l + 1) c' (F ++ [false]) → Chg w w' g g' → wpList Try.prog ops Q rest (a.put o.dst (.slice (some ⟨g', 0, none⟩) (l + 1) c')) w') :
    wpList Try.prog ops Q (o :: rest) a (w.alloc (.cells #[.bool false] 4)) := by
  obtain ⟨i0, hi, hz0, hz1, hz2⟩ := info_parts Try.info4
  refine wpList_append_lies (w.alloc (.cells #[.bool false] 4)) hgd s x 47 ho B 4 i0 (.bool false) 1 1 Try.underlying47 hi hz0 hz1 hz2 rfl (by decide) _ l _ hs (hown.row.alloc _) ⟨w.heap.size, 0, none⟩ 1 1 [.bool false] hx rfl
    (World.news_of_block (heap_alloc_new w _)) (by intro u hu; simp at hu; subst hu; rfl) (by omega) (by unfold maxLen; omega) (by omega) (by simp; omega) (w.heap.size + 1) (by simp) ?_
  intro g' cap w1 hown' hgrow hat hlt
  refine h g' cap w1 ⟨?_⟩ ⟨?_, ?_⟩
  · rw [List.map_append]; exact hown'
  · exact grown_trans (World.grownBy_alloc w _ _) hgrow (fun _ _ h => h) (fun _ _ h => h)
  · rcases hat with h1 | h1
    · left; exact (Option.some.inj h1).symm
    · right; omega

/-- A string's bytes, as integers. -/
def sbytes (s : ByteArray) : List Int := s.data.toList.map fun b => (b.toNat : Int)
theorem sbytes_cells (s : ByteArray) : byteCells s = (sbytes s).map (Value.int .u8) := by simp [byteCells, sbytes, Function.comp_def]
theorem sbytes_byte (s : ByteArray) : ∀ x ∈ sbytes s, 0 ≤ x ∧ x < 256 := by
  intro x hx
  obtain ⟨b, _, rfl⟩ := List.mem_map.1 hx
  have : b.toNat < 256 := b.toNat_lt
  omega

/-- 'out = append(out, s...)' of a string. -/
theorem run_push_str (w : World) (ty : TypeId) (B g l c : Nat) (O : List Int) (hown : Own B w g l c O) (s : ByteArray) (hb : l + s.size ≤ 140737488355328) (hB : B ≤ w.heap.size) :
    ∃ g' c' w', (Builtin.append_ #[24, 9] ty #[.slice (some ⟨g, 0, none⟩) l c, .string s]).run Try.prog w = .ok (.slice (some ⟨g', 0, none⟩) (l + s.size) c') w' ∧ Own B w' g' (l + s.size) c' (O ++ sbytes s) ∧ Chg w w' g g' := by
  obtain ⟨i, hi, hz0, hz1, hz2⟩ := info_parts Try.info5
  have hs : Src Try.prog i.size 9 (.string s) s.size (byteCells s) w := by rw [hz1]; exact Src.ofString w Try.underlying9 s
  have hrow := hown.row
  have hlen := hrow.1
  have hbl := byteCells_length s
  have hby : ∀ x ∈ O ++ sbytes s, 0 ≤ x ∧ x < 256 := fun x hx => by
    rcases List.mem_append.1 hx with h | h
    · exact hown.byte x h
    · exact sbytes_byte s x h
  have hmap : (O ++ sbytes s).map (Value.int .u8) = O.map (Value.int .u8) ++ byteCells s := by rw [List.map_append, sbytes_cells]
  have hlen2 : ((O ++ sbytes s).map (Value.int .u8)).length = (l + s.size) * 1 := by rw [hmap, List.length_append, hbl, hlen]; omega
  rcases hrow.2 with ⟨h', _⟩ | ⟨g', cap', cur, h', hbg, hg, hnc, hcm, hcs, htake⟩
  · simp at h'
  · simp only [Value.slice.injEq, Option.some.injEq, Addr.mk.injEq, and_true, true_and] at h'
    obtain ⟨rfl, rfl⟩ := h'
    by_cases hroom : l + s.size ≤ c
    · have hfit : l * i.size + (byteCells s).length ≤ cur.size := by rw [hbl, hcs, hz1]; omega
      have hst := run_storeCells_at Try.prog g (l * i.size) 5 (byteCells s) 0 cur w hg (by simpa using hfit) hs.one
      simp only [Nat.add_zero] at hst
      have hr : (Builtin.append_ #[24, 9] ty #[.slice (some ⟨g, 0, none⟩) l c, .string s]).run Try.prog w = .ok (.slice (some ⟨g, 0, none⟩) (l + s.size) c) (w.setRow g (cur.toList.take (l * i.size) ++ byteCells s ++ cur.toList.drop (l * i.size + (byteCells s).length)).toArray) := by
        simp [Builtin.append_, run_underlying Try.underlying24, run_underlying Try.underlying9, sizeOf, typeInfo, hi, hs.len, hroom, hs.cells, Addr.add_lit, hst]
      refine ⟨g, c, _, hr, ⟨⟨hlen2, .inr ⟨g, c, _, rfl, hbg, setRow_heap w g cur _ 5 _ hg, hroom, hcm, ?_, ?_⟩⟩, hby⟩, ⟨⟨rfl, rfl, rfl, by simp, fun k _ hk => setRow_other w g k _ (fun e => hk (by simp [e]))⟩, .inl rfl⟩⟩
      · rw [hz1]
        simp only [List.size_toArray, List.length_append, List.length_take, List.length_drop, Array.length_toList, hbl]
        omega
      · rw [hz1, htake, hmap, ← hlen2, hmap]
        exact List.take_left
    · have hold : (Builtin.firstCells i.size l (.slice (some ⟨g, 0, none⟩) l c)).run Try.prog w.drew = .ok (O.map (Value.int .u8)).toArray w.drew :=
        run_firstCells_some w.drew i.size l ⟨g, 0, none⟩ l c _ (by rw [hz1]; exact hlen) (by simpa using hrow.cells (g := g) rfl)
      have hr := run_append_grow_src (P := Try.prog) w 24 9 ty 5 i (.int .u8 0) Try.underlying24 hi hz0 (some ⟨g, 0, none⟩) l c (O.map (Value.int .u8)) hold (.string s) s.size (byteCells s) hs (by omega) (by omega) (growslice_fits (by omega) (by rw [hz2]; omega))
      have hge := grownCap_ge w (l + s.size) c 5
      have hcm' : grownCap w (l + s.size) c 5 ≤ maxLen := grownCap_le_maxLen w (l + s.size) c 5 (by unfold maxLen; omega)
      refine ⟨w.heap.size, _, _, hr, ⟨⟨hlen2, .inr ⟨w.heap.size, _, _, rfl, hB, heap_alloc_new w.drew _, hge, hcm', ?_, ?_⟩⟩, hby⟩, ⟨⟨rfl, rfl, rfl, by simp, fun k hk _ => Below.heap_alloc w.drew _ k hk⟩, .inr (Nat.le_refl _)⟩⟩
      · rw [← hmap]
        have e1 : ((O ++ sbytes s).map (Value.int .u8)).length = l + s.size := by omega
        simp only [Array.size_append, List.size_toArray, size_zeroCells, e1]
        show l + s.size + (grownCap w (l + s.size) c 5 - (l + s.size)) * 1 = _
        omega
      · rw [← hmap, ← hlen2]
        simp only [Array.toList_append]
        exact List.take_left

theorem wpList_push_str {ops : Array Oper} {rest : List Oper} {o : Oper} {a : Act} {Q : Exit → Act → World → Prop} (w : World) (hgd : o.guard = none) (s x : Operand)
    (ho : o.op = .call { callee := .builtin .append, args := #[s, x], argTypes := #[24, 9] })
    (B g l c : Nat) (O : List Int) (hs : a.eval s = .slice (some ⟨g, 0, none⟩) l c) (hown : Own B w g l c O)
    (t : ByteArray) (hx : a.eval x = .string t) (hb : l + t.size ≤ 140737488355328) (hB : B ≤ w.heap.size)
    (h : ∀ g' c' w', Own B w' g' (l + t.size) c' (O ++ sbytes t) → Chg w w' g g' → wpList Try.prog ops Q rest (a.put o.dst (.slice (some ⟨g', 0, none⟩) (l + t.size) c')) w') :
    wpList Try.prog ops Q (o :: rest) a w := by
  refine wpList_plain hgd fun K hK => ?_
  obtain ⟨g', c', w', hr, h2, h3⟩ := run_push_str w o.type B g l c O hown t hb hB
  unfold Oper.wp execOp
  simp only [ho, resolve, invoke, builtin, Sem.run_bind, Sem.run_pure, Result.andThen_ok, List.map_toArray, List.map_cons, List.map_nil, hs, hx, hr]
  exact hK _ _ (h g' c' w' h2 h3)

set_option maxHeartbeats 400000 in
theorem closer_any (x : Int) (w : World) :
    Calls Try.prog 32 #[.int .u8 x] w fun e w' => ∃ y : Int, e = .returned (.int .u8 y) ∧ (y = 125 ∨ y = 93) ∧ w' = w := by
  by_cases h : x = 123
  · have hh : (x == 123) = true := by simpa using h
    go_enter Try.func32, Try.ntmps32
    go_wp2
    go_ret
    exact ⟨125, rfl, .inl rfl, rfl⟩
  · have hh : (x == 123) = false := by simpa using h
    go_enter Try.func32, Try.ntmps32
    go_wp2
    go_ret
    exact ⟨93, rfl, .inr rfl, rfl⟩

/-- One of the eight words. -/
def IsWord (t : ByteArray) : Prop := 0 < t.size ∧ t.size ≤ 8 ∧ Word (sbytes t) ∧ ∀ x ∈ sbytes t, plainB x = true
def LPost (w : World) (e : Ending) (w' : World) : Prop := ∃ t : ByteArray, e = .returned (.string t) ∧ IsWord t ∧ w' = w

theorem isWord_of {t : ByteArray} (h1 : 0 < t.size) (h2 : t.size ≤ 8) {h : Int} {r : List Int} (h3 : sbytes t = h :: r) (h4 : h ≠ 34 ∧ h ≠ 123 ∧ h ≠ 91) (h5 : (sbytes t).all (fun x => !isTerm x && plainB x) = true) : IsWord t := by
  rw [List.all_eq_true] at h5
  refine ⟨h1, h2, ⟨⟨h, r, h3, h4⟩, fun x hx => ?_⟩, fun x hx => ?_⟩
  · have := h5 x hx; simp at this; exact this.1
  · have := h5 x hx; simp at this; exact this.2

set_option maxHeartbeats 1000000 in
theorem literal_any (v : Int) (w : World) (h0 : 0 ≤ v) (h1 : v < 256) : Calls Try.prog 34 #[.int .u8 v] w (LPost w) := by
  obtain ⟨m, hm⟩ : ∃ m, m = v % 8 := ⟨_, rfl⟩
  have HM : Hid (m = v % 8) := hm
  have hr : m = 0 ∨ m = 1 ∨ m = 2 ∨ m = 3 ∨ m = 4 ∨ m = 5 ∨ m = 6 ∨ m = 7 := by omega
  go_enter Try.func34, Try.ntmps34
  go_upto_region 2 with fail
  rw [← hm]
  clear hm HM
  rcases hr with rfl | rfl | rfl | rfl | rfl | rfl | rfl | rfl
  all_goals
    go_wp2
    go_ret
    exact ⟨_, rfl, isWord_of (by decide) (by decide) rfl (by decide) (by decide), rfl⟩
end Go.Proofs.Qxb6000759a
