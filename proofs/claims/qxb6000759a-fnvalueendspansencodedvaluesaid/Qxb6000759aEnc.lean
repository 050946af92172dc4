/-
  encodeValue: whatever the script and the strings, what it writes is one whole value.
-/
import Derived.Test.Qxb6000759aRows3
import Derived.Lib.SlBytesConst
import Derived.Deep.Light
namespace Go.Proofs.Qxb6000759a
open Go.RowKit Pl

def Enc (B : Nat) (w wr : World) (go lo co gs ls cs gf cf : Nat) (dn : Bool) : Prop :=
  ∃ (O S : List Int) (F : List Bool), Rows3 B w wr go lo co gs ls cs gf ls cf O S F ∧ Stt O ls dn ∧ ∀ x ∈ S, x = 123 ∨ x = 91

theorem enc_start (w : World) : Enc w.heap.size w (((w.alloc (.cells #[] 5)).alloc (.cells #[] 5)).alloc (.cells #[] 4)) w.heap.size 0 0 (w.heap.size + 1) 0 0 (w.heap.size + 2) 0 false := by
  refine ⟨[], [], [], ⟨⟨?_, by simp⟩, ⟨?_, by simp⟩, ⟨?_⟩, by omega, by omega, by omega, ?_, by simp; omega⟩, .inl ⟨rfl, .inl ⟨rfl, rfl⟩⟩, by simp⟩
  · exact ((World.ownsRow_lit (base := w.heap.size) (e := 5) (size := 1) w #[] 0 (Nat.le_refl _) (by decide) rfl).alloc _).alloc _
  · have := (World.ownsRow_lit (base := w.heap.size) (e := 5) (size := 1) (w.alloc (.cells #[] 5)) #[] 0 (by simp) (by decide) rfl).alloc (.cells #[] 4)
    simpa using this
  · have := World.ownsRow_lit (base := w.heap.size) (e := 4) (size := 1) ((w.alloc (.cells #[] 5)).alloc (.cells #[] 5)) #[] 0 (by simp; omega) (by decide) rfl
    simpa using this
  · exact (((Below.refl _ w).alloc (Nat.le_refl _) _).alloc (by simp) _).alloc (by simp; omega) _

/-- What encodeValue hands back: a slice of bytes that are one whole value. -/
def EPost (w : World) (e : Ending) (w' : World) : Prop :=
  ∃ (g n c : Nat) (E : List Int), e = .returned (.slice (some ⟨g, 0, none⟩) n c) ∧ w.heap.size ≤ g ∧ g < w'.heap.size ∧ n ≤ 17592186044416 ∧ E.length = n ∧ (∀ x ∈ E, 0 ≤ x ∧ x < 256) ∧ (∀ i, i < n → w'.cell? ⟨g, i, none⟩ = some (.int .u8 (E.getD i 0))) ∧ Val E ∧ Below w.heap.size w w'

section
variable {B : Nat} {w wr : World} {go lo co gs ls cs gf cf t : Nat} {O O' S : List Int} {F : List Bool}

theorem mid_of {n : Nat} (h : Stt O n false) : Mid O n := by
  rcases h with ⟨_, h⟩ | ⟨h, _⟩
  · exact h
  · cases h

/-- A container is closed. -/
theorem enc_close {N : List Int} {z : Int} (R : Rows3 B w wr go lo co gs (t + 1) cs gf (t + 1) cf O' S F) (hO : O' = O ++ N ++ [z]) (hSt : Stt O (t + 1) false) (hN : ∀ x ∈ N, plainB x = true) (hz : z = 125 ∨ z = 93) (hS : ∀ x ∈ S, x = 123 ∨ x = 91) :
    Enc B w wr go lo co gs t cs gf cf (decide (t = 0)) := by
  refine ⟨O', S.take t, F.take t, R.pop t t (by omega) (by omega), ?_, fun x hx => hS x (List.mem_of_mem_take hx)⟩
  have := Mid.closes ((mid_of hSt).plains (N := N) (by omega) hN) (by omega) hz
  rw [hO]
  have e : decide (t + 1 = 1) = decide (t = 0) := by simp
  rw [e] at this
  exact this
/-- Bytes that neither open, close nor quote. -/
theorem enc_plain {N : List Int} (R : Rows3 B w wr go lo co gs (t + 1) cs gf (t + 1) cf O' S F) (hO : O' = O ++ N) (hSt : Stt O (t + 1) false) (hN : ∀ x ∈ N, plainB x = true) (hS : ∀ x ∈ S, x = 123 ∨ x = 91) :
    Enc B w wr go lo co gs (t + 1) cs gf cf false :=
  ⟨O', S, F, R, .inl ⟨rfl, by rw [hO]; exact (mid_of hSt).plains (by omega) hN⟩, hS⟩
/-- A key, a colon. -/
theorem enc_key {N b : List Int} (R : Rows3 B w wr go lo co gs (t + 1) cs gf (t + 1) cf O' S F) (hO : O' = (O ++ 34 :: (b ++ [34])) ++ N) (hb : OkB b) (hSt : Stt O (t + 1) false) (hN : ∀ x ∈ N, plainB x = true) (hS : ∀ x ∈ S, x = 123 ∨ x = 91) :
    Enc B w wr go lo co gs (t + 1) cs gf cf false :=
  ⟨O', S, F, R, .inl ⟨rfl, by rw [hO]; exact ((mid_of hSt).str (by omega) hb).plains (by omega) hN⟩, hS⟩
/-- A container is opened. -/
theorem enc_open {N : List Int} {x : Int} {S' : List Int} {F' : List Bool} (R : Rows3 B w wr go lo co gs (ls + 1) cs gf (ls + 1) cf O' S' F') (hO : O' = O ++ [x] ++ N) (hS' : S' = S ++ [x]) (hx : x = 123 ∨ x = 91) (hSt : Stt O ls false) (hN : ∀ x ∈ N, plainB x = true) (hS : ∀ x ∈ S, x = 123 ∨ x = 91) :
    Enc B w wr go lo co gs (ls + 1) cs gf cf false := by
  refine ⟨O', S', F', R, .inl ⟨rfl, by rw [hO]; exact ((mid_of hSt).opens hx).plains (by omega) hN⟩, fun y hy => ?_⟩
  rw [hS'] at hy
  rcases List.mem_append.1 hy with h | h
  · exact hS y h
  · rw [List.mem_singleton.1 h]; exact hx
/-- A string as a value. -/
theorem enc_str {b : List Int} (R : Rows3 B w wr go lo co gs ls cs gf ls cf O' S F) (hO : O' = O ++ 34 :: (b ++ [34])) (hb : OkB b) (hSt : Stt O ls false) (hS : ∀ x ∈ S, x = 123 ∨ x = 91) :
    Enc B w wr go lo co gs ls cs gf cf (decide (ls = 0)) :=
  ⟨O', S, F, R, by rw [hO]; exact (mid_of hSt).strVal hb, hS⟩
/-- A word as a value. -/
theorem enc_word {x : ByteArray} (R : Rows3 B w wr go lo co gs ls cs gf ls cf O' S F) (hO : O' = O ++ sbytes x) (hx : IsWord x) (hSt : Stt O ls false) (hS : ∀ x ∈ S, x = 123 ∨ x = 91) :
    Enc B w wr go lo co gs ls cs gf cf (decide (ls = 0)) :=
  ⟨O', S, F, R, by rw [hO]; exact (mid_of hSt).wordVal hx.2.2.1 hx.2.2.2, hS⟩
end

def JUse (B g l : Nat) (O : List Int) (w : World) (e : Ending) (w' : World) : Prop :=
  ∃ (g' l' c' : Nat) (b : List Int), e = .returned (.slice (some ⟨g', 0, none⟩) l' c') ∧ Own B w' g' l' c' (O ++ 34 :: (b ++ [34])) ∧ OkB b ∧ l' ≤ l + 6291458 ∧ Chg w w' g g'
theorem json_use (B g l c : Nat) (O : List Int) (s : ByteArray) (w : World) (hown : Own B w g l c O) (hB : B ≤ w.heap.size) (hl : l ≤ 35184372088832) (hs : s.size ≤ 1048576) :
    Calls Try.prog 33 #[.slice (some ⟨g, 0, none⟩) l c, .string s] w (JUse B g l O w) :=
  (json_any B g l c O s w hown hB hl hs).mono fun e w' ⟨g', l', c', b, h1, h2, h3, h4, h5⟩ => ⟨g', l', c', b, h1, h2, h3, by omega, h5⟩

def Cls (B : Nat) (w wr : World) (go lo co gs ls cs gf lf cf : Nat) : Prop :=
  ∃ (O S : List Int) (F : List Bool), Rows3 B w wr go lo co gs ls cs gf lf cf O S F ∧ Fine O ls

theorem null_post {w wr : World} (hb : Below w.heap.size w wr) (hs : w.heap.size ≤ wr.heap.size) :
    EPost w (.returned (.slice (some ⟨wr.heap.size, 0, none⟩) 4 4)) (wr.alloc (.cells #[.int .u8 110, .int .u8 117, .int .u8 108, .int .u8 108] 5 (4, 5))) := by
  refine ⟨wr.heap.size, 4, 4, [110, 117, 108, 108], rfl, hs, by simp, by omega, rfl, by decide, ?_, .inr (.inr ⟨⟨110, [117, 108, 108], rfl, by decide⟩, by decide⟩), hb.alloc hs _⟩
  intro i hi
  rw [World.cell?_alloc_mark]
  match i, hi with
  | 0, _ => rfl
  | 1, _ => rfl
  | 2, _ => rfl
  | 3, _ => rfl
  | k + 4, h => exact absurd h (by omega)
theorem val_post {w wr : World} {go lo co gs cs gf lf cf : Nat} (h : Cls w.heap.size w wr go lo co gs 0 cs gf lf cf) (hlo : lo ≤ 17592186044416) : EPost w (.returned (.slice (some ⟨go, 0, none⟩) lo co)) wr := by
  obtain ⟨O, S, F, R, hG⟩ := h
  refine ⟨go, lo, co, O, rfl, R.o.ge.1, R.o.ge.2, hlo, R.o.len, R.o.byte, fun i hi => R.o.cell i hi, ?_, R.bel⟩
  rcases hG with ⟨_, h⟩ | ⟨h, _⟩
  · exact h
  · omega

set_option maxHeartbeats 4000000 in
set_option maxRecDepth 100000 in
theorem encode_some (gp cp n m ct : Nat) (sa : Option Addr) (xs : List Int) (ss : List ByteArray) (w : World) (hn : n ≤ 1048576) (hm : m ≤ 1048576) (hxb : ∀ i, i < n → 0 ≤ xs.getD i 0 ∧ xs.getD i 0 < 256) (hpb : gp < w.heap.size)
    (hops : ∀ i, i < n → w.cell? ⟨gp, i, none⟩ = some (.int .u8 (xs.getD i 0)))
    (hss : ∀ i, i < m → (ss.getD i ByteArray.empty).size ≤ 1048576)
    (hstr : ∀ i, i < m → ∃ b, sa = some ⟨b, 0, none⟩ ∧ b < w.heap.size ∧ w.cell? ⟨b, i, none⟩ = some (.string (ss.getD i ByteArray.empty))) :
    Calls Try.prog 23 #[.slice (some ⟨gp, 0, none⟩) n cp, .slice sa m ct] w (EPost w) := by
  have HX : Hid (∀ i, i < n → 0 ≤ xs.getD i 0 ∧ xs.getD i 0 < 256) := hxb
  have HO : Hid (∀ i, i < n → w.cell? ⟨gp, i, none⟩ = some (.int .u8 (xs.getD i 0))) := hops
  have HST : Hid (∀ i, i < m → ∃ (b : Nat) (sv : ByteArray), sa = some ⟨b, 0, none⟩ ∧ b < w.heap.size ∧ sv.size ≤ 1048576 ∧ w.cell? ⟨b, i, none⟩ = some (.string sv)) := fun i hi => by
    obtain ⟨b, h1, h2, h3⟩ := hstr i hi
    exact ⟨b, _, h1, h2, hss i hi, h3⟩
  clear hxb hops hss hstr
  go_enter Try.func23, Try.ntmps23
  go_wp2
  go_loopg [5, 6, 7, 8, 9, 10] n (fun k vo vs vf vn vd vj wr => ∃ (j nx go lo co gs ls cs gf cf : Nat) (dn : Bool), j + k = n ∧ nx ≤ m ∧ lo ≤ 12582936 * j ∧ ls ≤ j ∧ vo = .slice (some ⟨go, 0, none⟩) lo co ∧ vs = .slice (some ⟨gs, 0, none⟩) ls cs ∧ vf = .slice (some ⟨gf, 0, none⟩) ls cf ∧ vn = .int .i64 (nx : Int) ∧ vd = .bool dn ∧ vj = .int .i64 (j : Int) ∧ Enc w.heap.size w wr go lo co gs ls cs gf cf dn)
  case atStart => exact ⟨0, 0, w.heap.size, 0, 0, w.heap.size + 1, 0, 0, w.heap.size + 2, 0, false, by omega, by omega, by omega, by omega, rfl, rfl, rfl, rfl, rfl, rfl, enc_start w⟩
  case round =>
    obtain ⟨j, nx, go, lo, co, gs, ls, cs, gf, cf, dn, hjk, hnx, hlo, hls, rfl, rfl, rfl, rfl, rfl, rfl, henc⟩ := hrel
    by_cases hlt : j < n ∧ dn = false
    · obtain ⟨hjn, rfl⟩ := hlt
      obtain ⟨O, S, F, R, hSt, hS⟩ := henc
      have hop : wr.cell? ⟨gp, j, none⟩ = some (.int .u8 (xs.getD j 0)) := (R.bel.cell (by exact hpb)).trans (HO.out j hjn)
      obtain ⟨hy0, hy1⟩ := HX.out j hjn
      obtain ⟨y, hy⟩ : ∃ y, y = xs.getD j 0 := ⟨_, rfl⟩
      rw [← hy] at hop hy0 hy1
      clear hy
      go_upto_region 13 with fail
      generalize (bits BinOp.and IntKind.u8 y 64 != 0) = tg
      generalize (decide (128 ≤ y)) = wd
      generalize (bits BinOp.and IntKind.u8 y 64) = bt
      have hk0 : 0 ≤ y % 5 := by omega
      have hk1 : y % 5 < 5 := by omega
      generalize y % 5 = kd at hk0 hk1 ⊢
      clear hop
      by_cases hk2 : kd = 2
      · subst hk2
        clear hk0 hk1
        rcases ls with _ | t
        · as_aux_lemma =>
            go_wp2
            go_roundg (n - (j + 1))
            case measure => omega
            case rel => go_light; exact ⟨j + 1, nx, go, lo, co, gs, 0, cs, gf, cf, false, by omega, hnx, by omega, by omega, rfl, rfl, rfl, rfl, rfl, by go_num, O, S, F, R, hSt, hS⟩
        · have hcs := R.s.cell t (by omega)
          have hcap1 := R.s.cap
          have hcap2 := R.f.cap
          have hHS : Hid (∀ x ∈ S, x = 123 ∨ x = 91) := hS
          have hHT : Hid (Stt O (t + 1) false) := hSt
          clear hS hSt
          by_cases ht0 : t = 0
          · have ht1 : ((t : Int) == 0) = true := by rw [beq_iff_eq]; omega
            have HT0 : Hid (t = 0) := ht0
            clear ht0
            cases wd
            · as_aux_lemma =>
                go_wp2_with (first | (at_builtin; refine wpList_push _ rfl _ _ rfl w.heap.size _ _ _ _ rfl R.o _ _ rfl (by rfl) (by decide) (by rfl) (by first | decide | (simp [intOf]; omega)) (by omega) R.size ?_; intro g2 c2 w2 ho2 hch2; have R := R.out ho2 hch2; clear ho2 hch2; have hcs := R.s.cell t (by omega)) | (go_at_call 32; refine (closer_any _ _).mono ?_; rintro e w' ⟨z, rfl, hz, hw⟩; have hw := hw.symm; subst hw))
                have ht0 := HT0.out
                go_roundg (n - (j + 1))
                case measure => omega
                case rel =>
                  go_light
                  refine ⟨j + 1, nx, _, lo + 1, _, gs, t, cs, gf, cf, true, by omega, hnx, by omega, by omega, rfl, rfl, rfl, rfl, rfl, by go_num, ?_⟩
                  have := enc_close R (O := O) (N := []) (z := z) (by simp [intOf]) hHT.out (by decide) hz hHS.out
                  simpa [ht0] using this

            · as_aux_lemma =>
                go_wp2_with (first | (at_builtin; refine wpList_push _ rfl _ _ rfl w.heap.size _ _ _ _ rfl R.o _ _ rfl (by rfl) (by decide) (by rfl) (by first | decide | (simp [intOf]; omega)) (by omega) R.size ?_; intro g2 c2 w2 ho2 hch2; have R := R.out ho2 hch2; clear ho2 hch2; have hcs := R.s.cell t (by omega)) | (go_at_call 32; refine (closer_any _ _).mono ?_; rintro e w' ⟨z, rfl, hz, hw⟩; have hw := hw.symm; subst hw))
                have ht0 := HT0.out
                go_roundg (n - (j + 1))
                case measure => omega
                case rel =>
                  go_light
                  refine ⟨j + 1, nx, _, lo + 3 + 1, _, gs, t, cs, gf, cf, true, by omega, hnx, by omega, by omega, rfl, rfl, rfl, rfl, rfl, by go_num, ?_⟩
                  have := enc_close R (O := O) (N := [32, 13, 10]) (z := z) (by simp [intOf]) hHT.out (by decide) hz hHS.out
                  simpa [ht0] using this

          · have ht1 : ((t : Int) == 0) = false := by rw [beq_eq_false_iff_ne]; omega
            cases wd
            · as_aux_lemma =>
                go_wp2_with (first | (at_builtin; refine wpList_push _ rfl _ _ rfl w.heap.size _ _ _ _ rfl R.o _ _ rfl (by rfl) (by decide) (by rfl) (by first | decide | (simp [intOf]; omega)) (by omega) R.size ?_; intro g2 c2 w2 ho2 hch2; have R := R.out ho2 hch2; clear ho2 hch2; have hcs := R.s.cell t (by omega)) | (go_at_call 32; refine (closer_any _ _).mono ?_; rintro e w' ⟨z, rfl, hz, hw⟩; have hw := hw.symm; subst hw))
                go_roundg (n - (j + 1))
                case measure => omega
                case rel =>
                  go_light
                  refine ⟨j + 1, nx, _, lo + 1, _, gs, t, cs, gf, cf, false, by omega, hnx, by omega, by omega, rfl, rfl, rfl, rfl, rfl, by go_num, ?_⟩
                  have := enc_close R (O := O) (N := []) (z := z) (by simp [intOf]) hHT.out (by decide) hz hHS.out
                  simpa [ht0] using this

            · as_aux_lemma =>
                go_wp2_with (first | (at_builtin; refine wpList_push _ rfl _ _ rfl w.heap.size _ _ _ _ rfl R.o _ _ rfl (by rfl) (by decide) (by rfl) (by first | decide | (simp [intOf]; omega)) (by omega) R.size ?_; intro g2 c2 w2 ho2 hch2; have R := R.out ho2 hch2; clear ho2 hch2; have hcs := R.s.cell t (by omega)) | (go_at_call 32; refine (closer_any _ _).mono ?_; rintro e w' ⟨z, rfl, hz, hw⟩; have hw := hw.symm; subst hw))
                go_roundg (n - (j + 1))
                case measure => omega
                case rel =>
                  go_light
                  refine ⟨j + 1, nx, _, lo + 3 + 1, _, gs, t, cs, gf, cf, false, by omega, hnx, by omega, by omega, rfl, rfl, rfl, rfl, rfl, by go_num, ?_⟩
                  have := enc_close R (O := O) (N := [32, 13, 10]) (z := z) (by simp [intOf]) hHT.out (by decide) hz hHS.out
                  simpa [ht0] using this

      · have hk2' : (kd == 2) = false := by simpa using hk2
        clear hk2
        go_upto_if 74 with fail
        go_cut [5, 8] (fun vo vn wx => ∃ (nx' go' lo' co' : Nat), nx' ≤ m ∧ lo' ≤ lo + 6291464 ∧ vo = .slice (some ⟨go', 0, none⟩) lo' co' ∧ vn = .int .i64 (nx' : Int) ∧ Enc w.heap.size w wx go' lo' co' gs ls cs gf cf false)
        case first =>
          rcases ls with _ | t
          · as_aux_lemma =>
              go_wp2
              go_meet
              go_light
              exact ⟨nx, go, lo, co, hnx, by omega, rfl, rfl, O, S, F, R, hSt, hS⟩
          · have hcf := R.f.cell t (by omega)
            generalize F.getD t false = fb at hcf
            go_upto_if 81 with fail
            go_cut [5] (fun vo wx => ∃ (go' lo' co' : Nat), lo' ≤ lo + 3 ∧ vo = .slice (some ⟨go', 0, none⟩) lo' co' ∧ Enc w.heap.size w wx go' lo' co' gs (t + 1) cs gf cf false)
            case first =>
              cases fb
              · as_aux_lemma =>
                  go_wp2
                  go_meet
                  go_light
                  exact ⟨go, lo, co, by omega, rfl, O, S, F, R, hSt, hS⟩
              · cases wd
                · as_aux_lemma =>
                    go_wp2_with (at_builtin; refine wpList_push _ rfl _ _ rfl w.heap.size _ _ _ _ rfl R.o _ _ rfl (by rfl) (by decide) (by rfl) (by first | decide | (simp [intOf]; omega)) (by omega) R.size ?_; intro g2 c2 w2 ho2 hch2; have R := R.out ho2 hch2; clear ho2 hch2)
                    go_meet
                    go_light
                    exact ⟨_, lo + 1, _, by omega, rfl, enc_plain R (O := O) (N := [44]) (by simp [intOf]) hSt (by decide) hS⟩
                · as_aux_lemma =>
                    go_wp2_with (at_builtin; refine wpList_push _ rfl _ _ rfl w.heap.size _ _ _ _ rfl R.o _ _ rfl (by rfl) (by decide) (by rfl) (by first | decide | (simp [intOf]; omega)) (by omega) R.size ?_; intro g2 c2 w2 ho2 hch2; have R := R.out ho2 hch2; clear ho2 hch2)
                    go_meet
                    go_light
                    exact ⟨_, lo + 1 + 2, _, by omega, rfl, enc_plain R (O := O) (N := [44, 32, 10]) (by simp [intOf]) hSt (by decide) hS⟩
            case rest =>
              clear hcf R hSt hS O S F
              obtain ⟨go, lo1, co, hlo1, rfl, O, S, F, R, hSt, hS⟩ := hcut
              have hcf := R.f.cell t (by omega)
              have hff : wc.frozen? ⟨gf, t, none⟩ = false := R.f.row.frozenAt t
              have hSx : S.getD t 0 = 123 ∨ S.getD t 0 = 91 := by
                have hlen := R.s.len
                have hlt' : t < S.length := by omega
                have : S.getD t 0 = S[t] := by simp [List.getD, hlt']
                rw [this]
                exact hS _ (List.getElem_mem hlt')
              have R := R.mark t true
              have hcs := R.s.cell t (by omega)
              generalize S.getD t 0 = sx at hcs hSx
              have hHS : Hid (∀ x ∈ S, x = 123 ∨ x = 91) := hS
              have hHT : Hid (Stt O (t + 1) false) := hSt
              clear hS hSt
              rcases hSx with rfl | rfl
              · by_cases hk : nx < m
                · obtain ⟨b, sv, hsa, hb, hsz, hcell⟩ := HST.out nx hk
                  subst hsa
                  have hcst : (wc.setCell ⟨gf, t, none⟩ (.bool true)).cell? ⟨b, nx, none⟩ = some (.string sv) := (R.bel.cell (by exact hb)).trans hcell
                  cases tg
                  · as_aux_lemma =>
                      go_wp2_with (first | (go_at_call 33; refine (json_use w.heap.size _ _ _ _ _ _ R.o R.size (by omega) (by first | exact hsz | decide)).mono ?_; rintro e w' ⟨g3, l3, c3, bb, rfl, ho3, hbb, hl3, hch3⟩; have R := R.out ho3 hch3; clear ho3 hch3) | (at_builtin; refine wpList_push _ rfl _ _ rfl w.heap.size _ _ _ _ rfl R.o _ _ rfl (by rfl) (by decide) (by rfl) (by first | decide | (simp [intOf]; omega)) (by omega) R.size ?_; intro g2 c2 w2 ho2 hch2; have R := R.out ho2 hch2; clear ho2 hch2))
                      go_meet
                      go_light
                      exact ⟨nx + 1, _, l3 + 1, _, by omega, by omega, rfl, by go_num, enc_key R (O := O) (b := bb) (N := [58]) (by simp [intOf]) hbb hHT.out (by decide) hHS.out⟩

                  · as_aux_lemma =>
                      go_wp2_with (first | (go_at_call 33; refine (json_use w.heap.size _ _ _ _ _ _ R.o R.size (by omega) (by first | exact hsz | decide)).mono ?_; rintro e w' ⟨g3, l3, c3, bb, rfl, ho3, hbb, hl3, hch3⟩; have R := R.out ho3 hch3; clear ho3 hch3) | (at_builtin; refine wpList_push _ rfl _ _ rfl w.heap.size _ _ _ _ rfl R.o _ _ rfl (by rfl) (by decide) (by rfl) (by first | decide | (simp [intOf]; omega)) (by omega) R.size ?_; intro g2 c2 w2 ho2 hch2; have R := R.out ho2 hch2; clear ho2 hch2))
                      go_meet
                      go_light
                      exact ⟨nx + 1, _, l3 + 1 + 2, _, by omega, by omega, rfl, by go_num, enc_key R (O := O) (b := bb) (N := [58, 32, 9]) (by simp [intOf]) hbb hHT.out (by decide) hHS.out⟩

                · cases tg
                  · as_aux_lemma =>
                      go_wp2_with (first | (go_at_call 33; refine (json_use w.heap.size _ _ _ _ _ _ R.o R.size (by omega) (by first | exact hsz | decide)).mono ?_; rintro e w' ⟨g3, l3, c3, bb, rfl, ho3, hbb, hl3, hch3⟩; have R := R.out ho3 hch3; clear ho3 hch3) | (at_builtin; refine wpList_push _ rfl _ _ rfl w.heap.size _ _ _ _ rfl R.o _ _ rfl (by rfl) (by decide) (by rfl) (by first | decide | (simp [intOf]; omega)) (by omega) R.size ?_; intro g2 c2 w2 ho2 hch2; have R := R.out ho2 hch2; clear ho2 hch2))
                      go_meet
                      go_light
                      exact ⟨nx, _, l3 + 1, _, by omega, by omega, rfl, by go_num, enc_key R (O := O) (b := bb) (N := [58]) (by simp [intOf]) hbb hHT.out (by decide) hHS.out⟩

                  · as_aux_lemma =>
                      go_wp2_with (first | (go_at_call 33; refine (json_use w.heap.size _ _ _ _ _ _ R.o R.size (by omega) (by first | exact hsz | decide)).mono ?_; rintro e w' ⟨g3, l3, c3, bb, rfl, ho3, hbb, hl3, hch3⟩; have R := R.out ho3 hch3; clear ho3 hch3) | (at_builtin; refine wpList_push _ rfl _ _ rfl w.heap.size _ _ _ _ rfl R.o _ _ rfl (by rfl) (by decide) (by rfl) (by first | decide | (simp [intOf]; omega)) (by omega) R.size ?_; intro g2 c2 w2 ho2 hch2; have R := R.out ho2 hch2; clear ho2 hch2))
                      go_meet
                      go_light
                      exact ⟨nx, _, l3 + 1 + 2, _, by omega, by omega, rfl, by go_num, enc_key R (O := O) (b := bb) (N := [58, 32, 9]) (by simp [intOf]) hbb hHT.out (by decide) hHS.out⟩

              · as_aux_lemma =>
                  go_wp2
                  go_meet
                  go_light
                  exact ⟨nx, go, lo1, co, hnx, by omega, rfl, rfl, O, S, _, R, hHT.out, hHS.out⟩
        case rest =>
          clear R hSt hS O S F hnx
          obtain ⟨nx, go, lo1, co, hnx, hlo1, rfl, rfl, O, S, F, R, hSt, hS⟩ := hcut
          have hHS : Hid (∀ x ∈ S, x = 123 ∨ x = 91) := hS
          have hHT : Hid (Stt O ls false) := hSt
          clear hS hSt
          have hkd : kd = 0 ∨ kd = 1 ∨ kd = 3 ∨ kd = 4 := by
            have : kd ≠ 2 := by simpa using hk2'
            omega
          clear hk0 hk1 hk2'
          rcases hkd with rfl | rfl | rfl | rfl
          · cases tg
            · as_aux_lemma =>
                go_wp2_with (first | (at_builtin; refine wpList_push _ rfl _ _ rfl w.heap.size _ _ _ _ rfl R.o _ _ rfl (by rfl) (by decide) (by rfl) (by first | decide | (simp [intOf]; omega)) (by omega) R.size ?_; intro g2 c2 w2 ho2 hch2; have R := R.out ho2 hch2; clear ho2 hch2) | (at_builtin; refine wpList_push _ rfl _ _ rfl w.heap.size _ _ _ _ rfl R.s _ _ rfl (by rfl) (by decide) (by rfl) (by decide) (by omega) R.size ?_; intro g2 c2 w2 ho2 hch2; have R := R.stack ho2 hch2; clear ho2 hch2) | (at_builtin; refine wpList_pushF _ rfl _ _ rfl w.heap.size _ _ _ _ rfl R.f rfl (by omega) R.size ?_; intro g2 c2 w2 ho2 hch2; have R := R.flags ho2 hch2; clear ho2 hch2))
                go_roundg (n - (j + 1))
                case measure => omega
                case rel =>
                  go_light
                  exact ⟨j + 1, nx, _, lo1 + 1, _, _, ls + 1, _, _, _, false, by omega, hnx, by omega, by omega, rfl, rfl, rfl, rfl, rfl, by go_num, enc_open R (O := O) (S := S) (x := 91) (N := []) (by simp [intOf]) (by simp [intOf]) (.inr rfl) hHT.out (by decide) hHS.out⟩

            · as_aux_lemma =>
                go_wp2_with (first | (at_builtin; refine wpList_push _ rfl _ _ rfl w.heap.size _ _ _ _ rfl R.o _ _ rfl (by rfl) (by decide) (by rfl) (by first | decide | (simp [intOf]; omega)) (by omega) R.size ?_; intro g2 c2 w2 ho2 hch2; have R := R.out ho2 hch2; clear ho2 hch2) | (at_builtin; refine wpList_push _ rfl _ _ rfl w.heap.size _ _ _ _ rfl R.s _ _ rfl (by rfl) (by decide) (by rfl) (by decide) (by omega) R.size ?_; intro g2 c2 w2 ho2 hch2; have R := R.stack ho2 hch2; clear ho2 hch2) | (at_builtin; refine wpList_pushF _ rfl _ _ rfl w.heap.size _ _ _ _ rfl R.f rfl (by omega) R.size ?_; intro g2 c2 w2 ho2 hch2; have R := R.flags ho2 hch2; clear ho2 hch2))
                go_roundg (n - (j + 1))
                case measure => omega
                case rel =>
                  go_light
                  exact ⟨j + 1, nx, _, lo1 + 1 + 2, _, _, ls + 1, _, _, _, false, by omega, hnx, by omega, by omega, rfl, rfl, rfl, rfl, rfl, by go_num, enc_open R (O := O) (S := S) (x := 91) (N := [10, 32]) (by simp [intOf]) (by simp [intOf]) (.inr rfl) hHT.out (by decide) hHS.out⟩

          · cases tg
            · as_aux_lemma =>
                go_wp2_with (first | (at_builtin; refine wpList_push _ rfl _ _ rfl w.heap.size _ _ _ _ rfl R.o _ _ rfl (by rfl) (by decide) (by rfl) (by first | decide | (simp [intOf]; omega)) (by omega) R.size ?_; intro g2 c2 w2 ho2 hch2; have R := R.out ho2 hch2; clear ho2 hch2) | (at_builtin; refine wpList_push _ rfl _ _ rfl w.heap.size _ _ _ _ rfl R.s _ _ rfl (by rfl) (by decide) (by rfl) (by decide) (by omega) R.size ?_; intro g2 c2 w2 ho2 hch2; have R := R.stack ho2 hch2; clear ho2 hch2) | (at_builtin; refine wpList_pushF _ rfl _ _ rfl w.heap.size _ _ _ _ rfl R.f rfl (by omega) R.size ?_; intro g2 c2 w2 ho2 hch2; have R := R.flags ho2 hch2; clear ho2 hch2))
                go_roundg (n - (j + 1))
                case measure => omega
                case rel =>
                  go_light
                  exact ⟨j + 1, nx, _, lo1 + 1, _, _, ls + 1, _, _, _, false, by omega, hnx, by omega, by omega, rfl, rfl, rfl, rfl, rfl, by go_num, enc_open R (O := O) (S := S) (x := 123) (N := []) (by simp [intOf]) (by simp [intOf]) (.inl rfl) hHT.out (by decide) hHS.out⟩

            · as_aux_lemma =>
                go_wp2_with (first | (at_builtin; refine wpList_push _ rfl _ _ rfl w.heap.size _ _ _ _ rfl R.o _ _ rfl (by rfl) (by decide) (by rfl) (by first | decide | (simp [intOf]; omega)) (by omega) R.size ?_; intro g2 c2 w2 ho2 hch2; have R := R.out ho2 hch2; clear ho2 hch2) | (at_builtin; refine wpList_push _ rfl _ _ rfl w.heap.size _ _ _ _ rfl R.s _ _ rfl (by rfl) (by decide) (by rfl) (by decide) (by omega) R.size ?_; intro g2 c2 w2 ho2 hch2; have R := R.stack ho2 hch2; clear ho2 hch2) | (at_builtin; refine wpList_pushF _ rfl _ _ rfl w.heap.size _ _ _ _ rfl R.f rfl (by omega) R.size ?_; intro g2 c2 w2 ho2 hch2; have R := R.flags ho2 hch2; clear ho2 hch2))
                go_roundg (n - (j + 1))
                case measure => omega
                case rel =>
                  go_light
                  exact ⟨j + 1, nx, _, lo1 + 1 + 1, _, _, ls + 1, _, _, _, false, by omega, hnx, by omega, by omega, rfl, rfl, rfl, rfl, rfl, by go_num, enc_open R (O := O) (S := S) (x := 123) (N := [9]) (by simp [intOf]) (by simp [intOf]) (.inl rfl) hHT.out (by decide) hHS.out⟩

          · by_cases hk : nx < m
            · obtain ⟨b, sv, hsa, hb, hsz, hcell⟩ := HST.out nx hk
              subst hsa
              have hcst : wc.cell? ⟨b, nx, none⟩ = some (.string sv) := (R.bel.cell (by exact hb)).trans hcell
              rcases ls with _ | t
              · as_aux_lemma =>
                  go_wp2_with (go_at_call 33; refine (json_use w.heap.size _ _ _ _ _ _ R.o R.size (by omega) (by first | exact hsz | decide)).mono ?_; rintro e w' ⟨g3, l3, c3, bb, rfl, ho3, hbb, hl3, hch3⟩; have R := R.out ho3 hch3; clear ho3 hch3)
                  go_roundg (n - (j + 1))
                  case measure => omega
                  case rel =>
                    go_light
                    exact ⟨j + 1, nx + 1, _, l3, _, _, _, _, _, _, true, by omega, by omega, by omega, by omega, rfl, rfl, rfl, by go_num, rfl, by go_num, enc_str R (O := O) rfl hbb hHT.out hHS.out⟩

              · as_aux_lemma =>
                  go_wp2_with (go_at_call 33; refine (json_use w.heap.size _ _ _ _ _ _ R.o R.size (by omega) (by first | exact hsz | decide)).mono ?_; rintro e w' ⟨g3, l3, c3, bb, rfl, ho3, hbb, hl3, hch3⟩; have R := R.out ho3 hch3; clear ho3 hch3)
                  go_roundg (n - (j + 1))
                  case measure => omega
                  case rel =>
                    go_light
                    exact ⟨j + 1, nx + 1, _, l3, _, _, _, _, _, _, false, by omega, by omega, by omega, by omega, rfl, rfl, rfl, by go_num, rfl, by go_num, enc_str R (O := O) rfl hbb hHT.out hHS.out⟩

            · rcases ls with _ | t
              · as_aux_lemma =>
                  go_wp2_with (go_at_call 33; refine (json_use w.heap.size _ _ _ _ _ _ R.o R.size (by omega) (by first | exact hsz | decide)).mono ?_; rintro e w' ⟨g3, l3, c3, bb, rfl, ho3, hbb, hl3, hch3⟩; have R := R.out ho3 hch3; clear ho3 hch3)
                  go_roundg (n - (j + 1))
                  case measure => omega
                  case rel =>
                    go_light
                    exact ⟨j + 1, nx, _, l3, _, _, _, _, _, _, true, by omega, by omega, by omega, by omega, rfl, rfl, rfl, by go_num, rfl, by go_num, enc_str R (O := O) rfl hbb hHT.out hHS.out⟩

              · as_aux_lemma =>
                  go_wp2_with (go_at_call 33; refine (json_use w.heap.size _ _ _ _ _ _ R.o R.size (by omega) (by first | exact hsz | decide)).mono ?_; rintro e w' ⟨g3, l3, c3, bb, rfl, ho3, hbb, hl3, hch3⟩; have R := R.out ho3 hch3; clear ho3 hch3)
                  go_roundg (n - (j + 1))
                  case measure => omega
                  case rel =>
                    go_light
                    exact ⟨j + 1, nx, _, l3, _, _, _, _, _, _, false, by omega, by omega, by omega, by omega, rfl, rfl, rfl, by go_num, rfl, by go_num, enc_str R (O := O) rfl hbb hHT.out hHS.out⟩

          · rcases ls with _ | t
            · as_aux_lemma =>
                go_wp2_with (first | (go_at_call 34; refine (literal_any _ _ (by omega) (by omega)).mono ?_; rintro e w' ⟨tx, rfl, htx, hw⟩; have hw := hw.symm; subst hw; have htx1 := htx.2.1) | (at_builtin; refine wpList_push_str _ rfl _ _ rfl w.heap.size _ _ _ _ rfl R.o _ rfl (by omega) R.size ?_; intro g2 c2 w2 ho2 hch2; have R := R.out ho2 hch2; clear ho2 hch2))
                go_roundg (n - (j + 1))
                case measure => omega
                case rel =>
                  go_light
                  exact ⟨j + 1, nx, _, lo1 + tx.size, _, _, _, _, _, _, true, by omega, hnx, by omega, by omega, rfl, rfl, rfl, rfl, rfl, by go_num, enc_word R (O := O) rfl htx hHT.out hHS.out⟩

            · as_aux_lemma =>
                go_wp2_with (first | (go_at_call 34; refine (literal_any _ _ (by omega) (by omega)).mono ?_; rintro e w' ⟨tx, rfl, htx, hw⟩; have hw := hw.symm; subst hw; have htx1 := htx.2.1) | (at_builtin; refine wpList_push_str _ rfl _ _ rfl w.heap.size _ _ _ _ rfl R.o _ rfl (by omega) R.size ?_; intro g2 c2 w2 ho2 hch2; have R := R.out ho2 hch2; clear ho2 hch2))
                go_roundg (n - (j + 1))
                case measure => omega
                case rel =>
                  go_light
                  exact ⟨j + 1, nx, _, lo1 + tx.size, _, _, _, _, _, _, false, by omega, hnx, by omega, by omega, rfl, rfl, rfl, rfl, rfl, by go_num, enc_word R (O := O) rfl htx hHT.out hHS.out⟩

    · obtain ⟨O, S, F, R, hSt, hS⟩ := henc
      have kc := fun (w : World) (C : Array Value) (n c : Nat) => Lib.run_convert_bytes_const (P := Try.prog) w 24 5 C n c Try.underlying24 Try.underlying5
      have hcase : (¬ j < n) ∨ (j < n ∧ dn = true) := by
        by_cases h : j < n
        · right
          refine ⟨h, ?_⟩
          cases dn
          · exact absurd ⟨h, rfl⟩ hlt
          · rfl
        · exact .inl h
      clear hlt
      have hOl := R.o.len
      have HOl : Hid (O.length = lo) := hOl
      have hlo2 : lo + ls ≤ 17592186044416 := by omega
      clear hOl hlo
      rcases hcase with hlt | ⟨hlt, rfl⟩
      all_goals
        by_cases hz : lo = 0
        · as_aux_lemma =>
            have hz1 : ((lo : Int) == 0) = true := by rw [beq_iff_eq]; omega
            have hbel := R.bel
            have hsz := R.size
            clear hz R hSt hS
            go_wp2
            go_ret
            exact null_post hbel hsz
        · have hz1 : ((lo : Int) == 0) = false := by rw [beq_eq_false_iff_ne]; omega
          have hcl : Cls w.heap.size w wr go lo co gs ls cs gf ls cf := ⟨O, S, F, R, hSt.good (fun e => hz (by rw [← HOl.out, e]; rfl))⟩
          clear hz R hSt hS HOl
          go_wp2
          go_loopg [5, 6] ls (fun k vo vs wx => ∃ (go lo co gs cs gf lf cf : Nat), lo + k ≤ 17592186044416 ∧ vo = .slice (some ⟨go, 0, none⟩) lo co ∧ vs = .slice (some ⟨gs, 0, none⟩) k cs ∧ Cls w.heap.size w wx go lo co gs k cs gf lf cf)
          case atStart => exact ⟨go, lo, co, gs, cs, gf, ls, cf, hlo2, rfl, rfl, hcl⟩
          case round =>
            clear hcl
            obtain ⟨go, lo, co, gs, cs, gf, lf, cf, hlo, rfl, rfl, hcl⟩ := hrel
            rcases gk with _ | t
            · as_aux_lemma =>
                go_wp2
                go_ret
                exact val_post hcl hlo
            · as_aux_lemma =>
                obtain ⟨O, S, F, R, hG⟩ := hcl
                have hcs := R.s.cell t (by omega)
                have hcap1 := R.s.cap
                have hHG : Hid (Fine O (t + 1)) := hG
                clear hG
                go_wp2_with (first | (at_builtin; refine wpList_push _ rfl _ _ rfl w.heap.size _ _ _ _ rfl R.o _ _ rfl (by rfl) (by decide) (by rfl) (by first | decide | (simp [intOf]; omega)) (by omega) R.size ?_; intro g2 c2 w2 ho2 hch2; have R := R.out ho2 hch2; clear ho2 hch2; have hcs := R.s.cell t (by omega)) | (go_at_call 32; refine (closer_any _ _).mono ?_; rintro e w' ⟨z, rfl, hz, hw⟩; have hw := hw.symm; subst hw))
                go_roundg t
                case measure => omega
                case rel =>
                  go_light
                  refine ⟨_, lo + 1, _, gs, cs, gf, lf, cf, by omega, rfl, rfl, _, _, _, R.pop t lf (by omega) (by omega), ?_⟩
                  have := hHG.out.closes (x := z) (by omega) hz
                  simpa [intOf] using this
end Go.Proofs.Qxb6000759a
