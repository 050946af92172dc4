/-
  Rows of bytes that the call itself makes and appends to; appendJSONString.
-/
import Derived.Test.Qxb6000759aRows
import Derived.Test.Qxb6000759aPlain
import Derived.WalkKit
import Derived.WalkSpells
import Derived.WalkLawsBesides
import Derived.Below
import Derived.Deep.AppendLies
import Derived.Deep.CutBlock
import Derived.Deep.DeepCutAuto
import Derived.Deep.LoopGhost
namespace Go.Proofs.Qxb6000759a
open Go.RowKit Pl

theorem Try.info5 : (Try.prog.info? 5).map (fun i => (i.zero, i.size, i.bytes)) = some (some (.int .u8 0), 1, 1) := by kernel_rfl

/-- The slice at the head of block g, of length l and capacity c, is the call's own and holds the bytes O. -/
structure Own (B : Nat) (w : World) (g l c : Nat) (O : List Int) : Prop where
  row : w.ownsRow B 5 1 (.slice (some ⟨g, 0, none⟩) l c) l (O.map (Value.int .u8))
  byte : ∀ x ∈ O, 0 ≤ x ∧ x < 256

theorem Own.len {B : Nat} {w : World} {g l c : Nat} {O : List Int} (h : Own B w g l c O) : O.length = l := by
  have := h.row.1
  simpa using this
theorem Own.alloc {B : Nat} {w : World} {g l c : Nat} {O : List Int} (h : Own B w g l c O) (o : Obj) : Own B (w.alloc o) g l c O := ⟨h.row.alloc o, h.byte⟩
theorem Own.ge {B : Nat} {w : World} {g l c : Nat} {O : List Int} (h : Own B w g l c O) : B ≤ g ∧ g < w.heap.size := h.row.lt g rfl
theorem Own.cell {B : Nat} {w : World} {g l c : Nat} {O : List Int} (h : Own B w g l c O) (i : Nat) (hi : i < l) : w.cell? ⟨g, i, none⟩ = some (.int .u8 (O.getD i 0)) := by
  have hl := h.len
  rw [h.row.cellAt i (by omega)]
  have : i < O.length := by omega
  simp [List.getD, this]

/-- From w to w' only the row g was written and new blocks were laid; the row lies at g' now. -/
structure Chg (w w' : World) (g g' : Nat) : Prop where
  grown : w.grownBy w' (some g)
  lies : g' = g ∨ w.heap.size ≤ g'

theorem grown_trans {w w1 w2 : World} {r1 r2 : Option Nat} {r : Option Nat} (h1 : w.grownBy w1 r1) (h2 : w1.grownBy w2 r2) (e1 : ∀ k, k < w.heap.size → some k ≠ r → some k ≠ r1) (e2 : ∀ k, k < w.heap.size → some k ≠ r → some k ≠ r2) : w.grownBy w2 r :=
  ⟨h2.os.trans h1.os, h2.tape.trans h1.tape, h2.output.trans h1.output, Nat.le_trans h1.size h2.size, fun k hk hne => (h2.block k (Nat.lt_of_lt_of_le hk h1.size) (e2 k hk hne)).trans (h1.block k hk (e1 k hk hne))⟩
theorem Chg.refl (w : World) (g : Nat) : Chg w w g g := ⟨World.grownBy.refl w _, .inl rfl⟩
theorem Chg.trans {w w1 w2 : World} {g g1 g2 : Nat} (h : Chg w w1 g g1) (k : Chg w1 w2 g1 g2) : Chg w w2 g g2 := by
  refine ⟨grown_trans h.grown k.grown (fun _ _ h => h) (fun i hi hne e => ?_), ?_⟩
  · have e := Option.some.inj e
    rcases h.lies with h' | h'
    · exact hne (by rw [e, h'])
    · omega
  · have := h.grown.size
    rcases k.lies with h1 | h1
    · rcases h.lies with h2 | h2
      · left; rw [h1, h2]
      · right; omega
    · right; omega
theorem Chg.size {w w' : World} {g g' : Nat} (h : Chg w w' g g') : w.heap.size ≤ w'.heap.size := h.grown.size
theorem Chg.below {B : Nat} {w0 w w' : World} {g g' : Nat} (h : Chg w w' g g') (hb : Below B w0 w) (hB : B ≤ w.heap.size) (hg : B ≤ g) : Below B w0 w' :=
  hb.grown h.grown hB (fun k hk => by have := Option.some.inj hk; omega)

/-- 'out = append(out, ..)' of bytes that were laid in a block of their own just before. -/
theorem wpList_push {ops : Array Oper} {rest : List Oper} {o : Oper} {a : Act} {Q : Exit → Act → World → Prop} (w : World) (hgd : o.guard = none) (s x : Operand)
    (ho : o.op = .call { callee := .builtin .append, args := #[s, x], argTypes := #[24, 24] })
    (B g l c : Nat) (O : List Int) (hs : a.eval s = .slice (some ⟨g, 0, none⟩) l c) (hown : Own B w g l c O)
    (cs : Array Value) (m : Nat) (hx : a.eval x = .slice (some ⟨w.heap.size, 0, none⟩) m m) (hm : cs.size = m) (hm0 : 0 < m)
    (hcs : cs.toList = (cs.toList.map intOf).map (Value.int .u8)) (hby : ∀ y ∈ cs.toList.map intOf, 0 ≤ y ∧ y < 256) (hb : l + m ≤ 140737488355328) (hB : B ≤ w.heap.size)
    (h : ∀ g' c' w', Own B w' g' (l + m) c' (O ++ cs.toList.map intOf) → Chg w w' g g' → wpList Try.prog ops Q rest (a.put o.dst (.slice (some ⟨g', 0, none⟩) (l + m) c')) w') :
    wpList Try.prog ops Q (o :: rest) a (w.alloc (.cells cs 5)) := by
  obtain ⟨i0, hi, hz0, hz1, hz2⟩ := info_parts Try.info5
  refine wpList_append_lies (w.alloc (.cells cs 5)) hgd s x 24 ho B 5 i0 (.int .u8 0) 1 1 Try.underlying24 hi hz0 hz1 hz2 rfl (by decide) _ l _ hs (hown.row.alloc _) ⟨w.heap.size, 0, none⟩ m m cs.toList hx (by simpa using hm)
    (World.news_of_block (heap_alloc_new w _)) (by rw [hcs]; exact ints_oneCell _ _) hm0 (by unfold maxLen; omega) (by omega) (by simp; omega) (w.heap.size + 1) (by simp) ?_
  intro g' cap w1 hown' hgrow hat hlt
  refine h g' cap w1 ⟨?_, ?_⟩ ⟨?_, ?_⟩
  · rw [List.map_append, ← hcs]; exact hown'
  · intro y hy
    rcases List.mem_append.1 hy with h1 | h1
    · exact hown.byte y h1
    · exact hby y h1
  · exact grown_trans (World.grownBy_alloc w _ _) hgrow (fun _ _ h => h) (fun _ _ h => h)
  · rcases hat with h1 | h1
    · left; exact (Option.some.inj h1).symm
    · right; omega

theorem okb_two {l : List Int} {x y : Int} (h : OkB l) (x1 : x ≠ 34) (x2 : x ≠ 92) (y1 : y ≠ 34) (y2 : y ≠ 92) : OkB (l ++ [x, y]) := by
  have := okb_plain (okb_plain h x1 x2) y1 y2
  simpa using this
theorem okb_hex {l : List Int} {x y : Int} (h : OkB l) (x1 : x ≠ 34) (x2 : x ≠ 92) (y1 : y ≠ 34) (y2 : y ≠ 92) : OkB (l ++ [92, 117, 48, 48, x, y]) := by
  have := okb_two (okb_two (okb_esc 117 h) (x := 48) (y := 48) (by decide) (by decide) (by decide) (by decide)) x1 x2 y1 y2
  simpa using this

theorem own_assoc {B : Nat} {w : World} {g l c : Nat} {O b N : List Int} {x : Int} (h : Own B w g l c ((O ++ x :: b) ++ N)) : Own B w g l c (O ++ x :: (b ++ N)) := by
  rw [List.append_assoc, List.cons_append] at h
  exact h

set_option maxHeartbeats 400000 in
theorem hex_any (v : Int) (w : World) (h0 : 0 ≤ v) (h1 : v < 16) :
    Calls Try.prog 43 #[.int .u8 v] w fun e w' => ∃ h : Int, e = .returned (.int .u8 h) ∧ ((48 ≤ h ∧ h ≤ 57) ∨ (97 ≤ h ∧ h ≤ 102)) ∧ w' = w := by
  by_cases hlt : v < 10
  · go_enter Try.func43, Try.ntmps43
    go_wp2
    go_ret
    exact ⟨48 + v, rfl, by omega, rfl⟩
  · go_enter Try.func43, Try.ntmps43
    go_wp2
    go_ret
    exact ⟨97 + v - 10, rfl, by omega, rfl⟩

/-- Behind appendJSONString: a string literal has been appended. -/
def JPost (B g l : Nat) (O : List Int) (n : Nat) (w : World) (e : Ending) (w' : World) : Prop :=
  ∃ (g' l' c' : Nat) (b : List Int), e = .returned (.slice (some ⟨g', 0, none⟩) l' c') ∧ Own B w' g' l' c' (O ++ 34 :: (b ++ [34])) ∧ OkB b ∧ l' ≤ l + 6 * n + 2 ∧ Chg w w' g g'

set_option maxHeartbeats 2000000 in
set_option maxRecDepth 100000 in
theorem json_any (B g l c : Nat) (O : List Int) (s : ByteArray) (w : World) (hown : Own B w g l c O) (hB : B ≤ w.heap.size) (hl : l ≤ 35184372088832) (hs : s.size ≤ 1048576) :
    Calls Try.prog 33 #[.slice (some ⟨g, 0, none⟩) l c, .string s] w (JPost B g l O s.size w) := by
  go_enter Try.func33, Try.ntmps33
  go_wp2_with (at_builtin; refine wpList_push _ rfl _ _ rfl B g l c O rfl hown _ _ rfl (by rfl) (by decide) (by rfl) (by decide) (by omega) (by omega) ?_; intro g1 c1 w1 hown1 hch1)
  go_loopw [0, 5] (fun o i wr => ∃ (k g' l' c' : Nat) (b : List Int), k ≤ s.size ∧ i = .int .i64 (k : Int) ∧ o = .slice (some ⟨g', 0, none⟩) l' c' ∧ Own B wr g' l' c' (O ++ 34 :: b) ∧ OkB b ∧ l' ≤ l + 1 + 6 * k ∧ Chg w wr g g') (fun _ i _ => s.size - (intOf i).toNat)
  case atStart => exact ⟨0, g1, l + 1, c1, [], Nat.zero_le _, rfl, rfl, hown1, okb_nil, by omega, hch1⟩
  case round =>
    clear hown1 hch1
    obtain ⟨k, g', l', c', b, hk, rfl, rfl, ho, hb, hle, hch⟩ := hrel
    have hsz := hch.size
    by_cases hlt : k < s.size
    · obtain ⟨x, hx⟩ : ∃ x : UInt8, s[k] = x := ⟨_, rfl⟩
      have hx256 : x.toNat < 256 := x.toNat_lt
      go_upto_region 6 with fail
      have hy0 : (0 : Int) ≤ (x.toNat : Int) := by omega
      have hy1 : (x.toNat : Int) < 256 := by omega
      generalize ((x.toNat : Nat) : Int) = y at hy0 hy1 ⊢
      clear hx256 hx
      by_cases e1 : y = 34 ∨ y = 92 ∨ y = 47 ∨ y = 10 ∨ y = 9 ∨ y = 13 ∨ y = 8 ∨ y = 12
      · rcases e1 with rfl | rfl | rfl | rfl | rfl | rfl | rfl | rfl
        all_goals
          clear hy0 hy1
          go_wp2_with (at_builtin; refine wpList_push _ rfl _ _ rfl B g' l' c' _ rfl ho _ _ rfl (by rfl) (by decide) (by rfl) (by decide) (by omega) (by omega) ?_; intro g2 c2 w2 ho2 hch2)
          go_roundw
          case rel => exact ⟨k + 1, g2, l' + 2, c2, _, by omega, by go_num, rfl, own_assoc ho2, okb_esc _ hb, by omega, hch.trans hch2⟩
          case measure => simp [intOf]; omega
      · simp only [not_or] at e1
        obtain ⟨n1, n2, n3, n4, n5, n6, n7, n8⟩ := e1
        have k1 : (y == 34) = false := by simpa using n1
        have k2 : (y == 92) = false := by simpa using n2
        have k3 : (y == 47) = false := by simpa using n3
        have k4 : (y == 10) = false := by simpa using n4
        have k5 : (y == 9) = false := by simpa using n5
        have k6 : (y == 13) = false := by simpa using n6
        have k7 : (y == 8) = false := by simpa using n7
        have k8 : (y == 12) = false := by simpa using n8
        have HN : Hid (y ≠ 34 ∧ y ≠ 92) := ⟨n1, n2⟩
        clear n1 n2 n3 n4 n5 n6 n7 n8
        by_cases e2 : y < 32
        · go_wp2_with fail
          refine (hex_any (y / 16) wr (by omega) (by omega)).mono ?_
          rintro e w' ⟨h1, rfl, hh1, hw⟩
          have hw := hw.symm
          subst hw
          go_wp2_with fail
          refine (hex_any (y % 16) wr (by omega) (by omega)).mono ?_
          rintro e w' ⟨h2, rfl, hh2, hw⟩
          have hw := hw.symm
          subst hw
          have hby : ∀ z ∈ [92, 117, 48, 48, h1, h2], 0 ≤ z ∧ z < 256 := by simp; omega
          have HH : Hid ((h1 ≠ 34 ∧ h1 ≠ 92) ∧ h2 ≠ 34 ∧ h2 ≠ 92) := by show _ ∧ _; omega
          clear hh1 hh2
          go_wp2_with (at_builtin; refine wpList_push _ rfl _ _ rfl B g' l' c' _ rfl ho _ _ rfl (by rfl) (by decide) (by rfl) hby (by omega) (by omega) ?_; intro g2 c2 w2 ho2 hch2)
          go_roundw
          case rel => exact ⟨k + 1, g2, l' + 6, c2, _, by omega, by go_num, rfl, own_assoc ho2, okb_hex hb HH.out.1.1 HH.out.1.2 HH.out.2.1 HH.out.2.2, by omega, hch.trans hch2⟩
          case measure => simp [intOf]; omega
        · by_cases e3 : 128 ≤ y
          · have hby : ∀ z ∈ [192 + y / 64, 128 + y % 64], 0 ≤ z ∧ z < 256 := by simp; omega
            have HH : Hid ((192 + y / 64 ≠ 34 ∧ 192 + y / 64 ≠ 92) ∧ 128 + y % 64 ≠ 34 ∧ 128 + y % 64 ≠ 92) := by show _ ∧ _; omega
            go_wp2_with (at_builtin; refine wpList_push _ rfl _ _ rfl B g' l' c' _ rfl ho _ _ rfl (by rfl) (by decide) (by rfl) hby (by omega) (by omega) ?_; intro g2 c2 w2 ho2 hch2)
            go_roundw
            case rel => exact ⟨k + 1, g2, l' + 2, c2, _, by omega, by go_num, rfl, own_assoc ho2, okb_two hb HH.out.1.1 HH.out.1.2 HH.out.2.1 HH.out.2.2, by omega, hch.trans hch2⟩
            case measure => simp [intOf]; omega
          · have hby : ∀ z ∈ [y], 0 ≤ z ∧ z < 256 := by simp; omega
            go_wp2_with (at_builtin; refine wpList_push _ rfl _ _ rfl B g' l' c' _ rfl ho _ _ rfl (by rfl) (by decide) (by rfl) hby (by omega) (by omega) ?_; intro g2 c2 w2 ho2 hch2)
            go_roundw
            case rel => exact ⟨k + 1, g2, l' + 1, c2, _, by omega, by go_num, rfl, own_assoc ho2, okb_plain hb HN.out.1 HN.out.2, by omega, hch.trans hch2⟩
            case measure => simp [intOf]; omega
    · have hkn : k = s.size := by omega
      go_wp2_with (at_builtin; refine wpList_push _ rfl _ _ rfl B g' l' c' _ rfl ho _ _ rfl (by rfl) (by decide) (by rfl) (by decide) (by omega) (by omega) ?_; intro g2 c2 w2 ho2 hch2)
      go_ret
      exact ⟨g2, l' + 1, c2, b, rfl, own_assoc ho2, hb, by omega, hch.trans hch2⟩
end Go.Proofs.Qxb6000759a
