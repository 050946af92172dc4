/-
  The walk of the law itself.
-/
import Derived.Test.Qxb6000759aTop0
import Derived.Test.Qxb6000759aScan
namespace Go.Proofs.Qxb6000759a
open Go.RowKit Pl

theorem add_at (b off j : Nat) : (⟨b, off, none⟩ : Addr).add j = ⟨b, off + j, none⟩ := by unfold Addr.add; split <;> simp_all

theorem Cloned.later {w w' : World} {a : Option Addr} {n c : Nat} (h : Cloned w a n c) (hb : w.heap.size ≤ w'.heap.size) : Cloned w' a n c := by
  rcases h with h | ⟨g, h1, h2, h3⟩
  · exact .inl h
  · exact .inr ⟨g, h1, h2, by omega⟩
theorem Cloned.nil {w : World} {a : Option Addr} {n c : Nat} (h : Cloned w a n c) : a = none → n = 0 ∧ c = 0 := by
  rintro rfl
  rcases h with ⟨_, h⟩ | ⟨g, h1, _⟩
  · exact h
  · cases h1
theorem BytesAt.far {B : Nat} {w w' : World} {a : Option Addr} {n : Nat} {xs : List Int} (h : BytesAt w a n xs) (hB : w.heap.size ≤ B) (hb : Below B w w') : BytesAt w' a n xs := h.later (hb.mono hB)

/-- 'data = append(data, xs...)' within the capacity, xs wherever it lies. -/
theorem wpList_fit {ops : Array Oper} {rest : List Oper} {o : Oper} {a : Act} {Q : Exit → Act → World → Prop} (w : World) (hgd : o.guard = none) (s x : Operand)
    (ho : o.op = .call { callee := .builtin .append, args := #[s, x], argTypes := #[24, 24] })
    (B g l c : Nat) (O : List Int) (hs : a.eval s = .slice (some ⟨g, 0, none⟩) l c) (hown : Own B w g l c O)
    (ao : Option Addr) (m cx : Nat) (N : List Int) (hx : a.eval x = .slice ao m cx) (hN : N.length = m) (hNb : ∀ y ∈ N, 0 ≤ y ∧ y < 256) (hnone : ao = none → m = 0 ∧ cx = 0) (hc : BytesAt w ao m N) (b1 : l + m ≤ c) (l' : Nat) (hl' : l + m = l') (O' : List Int) (hO' : O ++ N = O')
    (h : ∀ w', Own B w' g l' c O' → Chg w w' g g → wpList Try.prog ops Q rest (a.put o.dst (.slice (some ⟨g, 0, none⟩) l' c)) w') :
    wpList Try.prog ops Q (o :: rest) a w := by
  subst hl'
  subst hO'
  obtain ⟨i0, hi, hz0, hz1, hz2⟩ := info_parts Try.info5
  refine wpList_append_fits_any w hgd s x 24 ho B 5 i0 1 Try.underlying24 hi hz1 g l c _ hs hown.row ao m cx (N.map (Value.int .u8)) hx (by simp [hN]) hnone ?_ (ints_oneCell _ _) b1 ?_
  · intro ad had j u hu
    have hj : j < N.length := by
      rcases Nat.lt_or_ge j N.length with h' | h'
      · exact h'
      · rw [List.getElem?_eq_none (by simpa using h')] at hu; cases hu
    obtain ⟨b, off, h1, _, h3⟩ := hc j (by omega)
    rw [had] at h1
    have h1 := Option.some.inj h1
    subst h1
    rw [add_at, h3, ← hu]
    simp [List.getD, hj]
  · intro w' h1 h2
    refine h w' ⟨by rw [List.map_append]; exact h1, fun y hy => ?_⟩ ⟨h2, .inl rfl⟩
    rcases List.mem_append.1 hy with h' | h'
    · exact hown.byte y h'
    · exact hNb y h'

theorem ret_bool {b : Bool} (h : b = true) : Ending.returned (.bool b) = .returned (.bool true) := by rw [h]
theorem isTerm_byte {t : Int} (h : isTerm t = true) : 0 ≤ t ∧ t < 256 := by simp only [isTerm, decide_eq_true_eq] at h; omega
theorem one_new (w : World) (t : Int) : BytesAt (w.alloc (.cells #[.int .u8 t] 5)) (some ⟨w.heap.size, 0, none⟩) 1 [t] := fun i hi => by
  obtain rfl : i = 0 := by omega
  refine ⟨w.heap.size, 0, rfl, by simp, ?_⟩
  have := World.news_of_block (heap_alloc_new w (.cells #[.int .u8 t] 5)) 0 (.int .u8 t) rfl
  rw [add_at] at this
  exact this

theorem getD_byte {l : List Int} (h : ∀ x ∈ l, 0 ≤ x ∧ x < 256) (i : Nat) : i < l.length → 0 ≤ l.getD i 0 ∧ l.getD i 0 < 256 := fun hi => by
  have e : l.getD i 0 = l[i] := by simp [List.getD, hi]
  rw [e]
  exact h _ (List.getElem_mem hi)

set_option maxHeartbeats 4000000 in
set_option maxRecDepth 100000 in
theorem walk_core (ap ao sa ar : Option Addr) (p cp n co m ct r cr : Nat) (P X Rr : List Int) (ss : List ByteArray) (t : Int) (w : World)
    (hPl : P.length = p) (hXl : X.length = n) (hRl : Rr.length = r) (hPb : ∀ x ∈ P, 0 ≤ x ∧ x < 256) (hXb : ∀ x ∈ X, 0 ≤ x ∧ x < 256) (hRb : ∀ x ∈ Rr, 0 ≤ x ∧ x < 256) (ht0 : 0 ≤ t) (ht1 : t < 256)
    (np : ap = none → p = 0 ∧ cp = 0) (no : ao = none → n = 0 ∧ co = 0) (ns : sa = none → m = 0 ∧ ct = 0) (nr : ar = none → r = 0 ∧ cr = 0)
    (hP : BytesAt w ap p P) (hX : BytesAt w ao n X) (hR : BytesAt w ar r Rr) (hS : StrsAt w sa m ss) :
    Calls Try.prog 9 #[.slice ap p cp, .slice ao n co, .slice sa m ct, .int .u8 t, .slice ar r cr] w fun e w' => e = .returned (.bool true) ∧ Below w.heap.size w w' := by
  have H1 : Hid ((ap = none → p = 0 ∧ cp = 0) ∧ (ao = none → n = 0 ∧ co = 0) ∧ (sa = none → m = 0 ∧ ct = 0) ∧ (ar = none → r = 0 ∧ cr = 0)) := ⟨np, no, ns, nr⟩
  have H2 : Hid (BytesAt w ap p P ∧ BytesAt w ao n X ∧ BytesAt w ar r Rr ∧ StrsAt w sa m ss) := ⟨hP, hX, hR, hS⟩
  have H3 : Hid (P.length = p ∧ X.length = n ∧ Rr.length = r) := ⟨hPl, hXl, hRl⟩
  have H4 : Hid ((∀ x ∈ P, 0 ≤ x ∧ x < 256) ∧ (∀ x ∈ X, 0 ≤ x ∧ x < 256) ∧ (∀ x ∈ Rr, 0 ≤ x ∧ x < 256)) := ⟨hPb, hXb, hRb⟩
  clear np no ns nr hP hX hR hS hPl hXl hRl hPb hXb hRb
  go_enter Try.func9, Try.ntmps9
  go_wp2_with fail
  refine (zz_any ap ao sa ar p cp n co m ct r cr t ss w H2.out.2.2.2).mono ?_
  rintro e w' ⟨hw, hcase⟩
  have hw := hw.symm
  subst hw
  rcases hcase with ⟨rfl, hp, hn, hm, hr, hss⟩ | rfl
  rotate_left
  · go_wp2
    go_ret
    exact ⟨rfl, Below.refl _ _⟩
  have H5 : Hid (∀ i, i < m → (ss.getD i ByteArray.empty).size ≤ 1048576) := hss
  clear hss
  by_cases hsum : p + n + r ≤ 1048576
  rotate_left
  · go_wp2
    go_ret
    exact ⟨rfl, Below.refl _ _⟩
  go_wp2_with fail
  refine (fit_any ((p : Int) + n + r) sa m ct ss w (by omega) (by omega) hm H2.out.2.2.2 H5.out).mono ?_
  rintro e w' ⟨hw, b, rfl⟩
  have hw := hw.symm
  subst hw
  cases b
  · go_wp2
    go_ret
    exact ⟨rfl, Below.refl _ _⟩
  go_wp2_with fail
  refine (clone_any ap p cp P w hp H1.out.1 H2.out.1).mono ?_
  rintro e w1 ⟨a1, c1, rfl, cl1, ba1, bel1⟩
  have sz1 := bel1.size
  go_wp2_with fail
  refine (clone_any ao n co X w1 hn H1.out.2.1 (H2.out.2.1.later bel1)).mono ?_
  rintro e w2 ⟨a2, c2, rfl, cl2, ba2, bel2⟩
  have sz2 := bel2.size
  go_wp2_with fail
  refine (sclone_any sa m ct ss w2 hm H1.out.2.2.1 ((H2.out.2.2.2.later bel1).later bel2)).mono ?_
  rintro e w3 ⟨a3, c3, rfl, cl3, ba3, bel3⟩
  have sz3 := bel3.size
  go_wp2_with fail
  refine (clone_any ar r cr Rr w3 hr H1.out.2.2.2 (((H2.out.2.2.1.later bel1).later bel2).later bel3)).mono ?_
  rintro e w4 ⟨a4, c4, rfl, cl4, ba4, bel4⟩
  have sz4 := bel4.size
  go_wp2_with fail
  refine (encode_any a2 a3 n c2 m c3 X ss w4 hn hm (fun i hi => getD_byte H4.out.2.1 i (by rw [H3.out.2.1]; exact hi)) (cl2.later (by omega)) (cl3.later sz4) ((ba2.later bel3).later bel4) (ba3.later bel4) H5.out).mono ?_
  rintro e w5 ⟨ge, ne, ce, E, rfl, hge1, hge2, hne, hEl, hEb, hEc, hV, bel5⟩
  have sz5 := bel5.size
  have B5 : Hid (Below w.heap.size w w5) := (((bel1.trans (bel2.mono sz1)).trans (bel3.mono (by omega))).trans (bel4.mono (by omega))).trans (bel5.mono (by omega))
  have F1 : Hid (BytesAt w5 a1 p P) := (((ba1.later bel2).later bel3).later bel4).later bel5
  have F4 : Hid (BytesAt w5 a4 r Rr) := ba4.later bel5
  have FE : Hid (BytesAt w5 (some ⟨ge, 0, none⟩) ne E) := fun i hi => ⟨ge, 0, rfl, hge2, by rw [Nat.zero_add]; exact hEc i hi⟩
  have N1 : Hid (a1 = none → p = 0 ∧ c1 = 0) := cl1.nil
  have N4 : Hid (a4 = none → r = 0 ∧ c4 = 0) := cl4.nil
  have HE : Hid (E.length = ne ∧ (∀ x ∈ E, 0 ≤ x ∧ x < 256) ∧ Val E) := ⟨hEl, hEb, hV⟩
  have szw : w.heap.size ≤ w5.heap.size := by omega
  clear bel1 bel2 bel3 bel4 bel5 ba1 ba2 ba3 ba4 cl1 cl2 cl3 cl4 hEl hEb hEc hV sz1 sz2 sz3 sz4 sz5 hge1 hge2 H1 H2 H5
  obtain ⟨i0, hi, hz0, hz1, hz2⟩ := info_parts Try.info5
  obtain ⟨cap, hcap⟩ : ∃ cap, cap = p + ne + 1 + r := ⟨_, rfl⟩
  have hcap1 : p + ne + 1 + r ≤ cap := by omega
  have hcap2 : cap ≤ 35184372088832 := by omega
  go_wp2_with (first | (at_make; refine wpList_make_own _ rfl _ _ 24 rfl w5.heap.size 5 i0 (.int .u8 0) 1 Try.underlying24 hi hz0 hz1 .i64 .i64 _ cap rfl rfl (by omega) (by rw [hz2]; omega) (by unfold maxLen; omega) (Nat.le_refl _) ?_; intro w6 hown hgrow; have O6 : Own w5.heap.size w6 w5.heap.size 0 cap [] := ⟨by simpa using hown, by simp⟩; have b6 : Below w5.heap.size w5 w6 := (Below.refl _ w5).grown hgrow (Nat.le_refl _) (by intro r hr; cases hr); clear hcap hown hgrow) | (at_builtin; refine wpList_fit _ rfl (.tmp 77) (.tmp 78) rfl w5.heap.size w5.heap.size 0 cap [] rfl O6 a1 p c1 P rfl H3.out.1 H4.out.1 N1.out (F1.out.later b6) (by omega) p (by omega) P rfl ?_; intro w7 O7 ch7; have b7 : Below w5.heap.size w5 w7 := ch7.below b6 b6.size (Nat.le_refl _)) | (at_builtin; refine wpList_fit _ rfl (.tmp 82) (.tmp 83) rfl w5.heap.size w5.heap.size p cap P rfl O7 (some ⟨ge, 0, none⟩) ne ce E rfl HE.out.1 HE.out.2.1 (by intro h; cases h) (FE.out.later b7) (by omega) (p + ne) rfl (P ++ E) rfl ?_; intro w8 O8 ch8; have b8 : Below w5.heap.size w5 w8 := ch8.below b7 b7.size (Nat.le_refl _)))
  refine (term_any t w8 ht0 ht1).mono ?_
  rintro e w' ⟨hw, hcase⟩
  have hw := hw.symm
  subst hw
  have hPE : (P ++ E).length = p + ne := by rw [List.length_append, H3.out.1, HE.out.1]
  have HPE : Hid ((P ++ E).length = p + ne) := hPE
  clear hPE
  have g8 := O8.ge
  rcases hcase with ⟨tt, rfl, htt⟩ | rfl
  · have httb := isTerm_byte htt
    have HTT : Hid (isTerm tt = true) := htt
    clear htt
    have hba : BytesAt (w8.alloc (.cells #[.int .u8 tt] 5)) (some ⟨w8.heap.size, 0, none⟩) 1 [tt] := one_new w8 tt
    have HBA : Hid (BytesAt (w8.alloc (.cells #[.int .u8 tt] 5)) (some ⟨w8.heap.size, 0, none⟩) 1 [tt]) := hba
    clear hba
    go_wp2_with (first | (at_builtin; refine wpList_fit _ rfl (.tmp 91) (.tmp 93) rfl w5.heap.size w5.heap.size (p + ne) cap (P ++ E) rfl (O8.alloc _) (some ⟨w8.heap.size, 0, none⟩) 1 1 [tt] rfl rfl (by intro y hy; rw [List.mem_singleton.1 hy]; exact httb) (by intro h; cases h) HBA.out (by omega) (p + ne + 1) rfl (P ++ E ++ [tt]) rfl ?_; intro w9 O9 ch9; have b9 : Below w5.heap.size w5 w9 := ch9.below (b8.alloc b8.size _) (by simp; have := b8.size; omega) (Nat.le_refl _)) | (at_builtin; refine wpList_fit _ rfl (.tmp 95) (.tmp 96) rfl w5.heap.size w5.heap.size (p + ne + 1) cap (P ++ E ++ [tt]) rfl O9 a4 r c4 Rr rfl H3.out.2.2 H4.out.2.2 N4.out (F4.out.later b9) (by omega) (p + ne + 1 + r) rfl (P ++ E ++ [tt] ++ Rr) rfl ?_; intro w10 O10 ch10; have b10 : Below w5.heap.size w5 w10 := ch10.below b9 b9.size (Nat.le_refl _)))
    have hcon := zzvalueEnd_any w5.heap.size cap (p + ne + 1 + r) (P ++ E ++ [tt] ++ Rr) P E ([tt] ++ Rr) w10 (by omega) (by omega) O10.len O10.byte (by simp) HE.out.2.2 (.inr ⟨tt, Rr, rfl, HTT.out⟩) (fun i hi => O10.cell i hi)
    rw [H3.out.1, HE.out.1] at hcon
    go_wp2_with (go_at_call 25; refine hcon.mono ?_; rintro e w' ⟨rfl, hw⟩; have hw := hw.symm; subst hw)
    go_ret
    exact ⟨ret_bool (by first | rfl | simp), B5.out.trans (b10.mono szw)⟩
  · have hcon := zzvalueEnd_any w5.heap.size cap (p + ne) (P ++ E) P E [] w8 (by omega) (by omega) O8.len O8.byte (by simp) HE.out.2.2 (.inl rfl) (fun i hi => O8.cell i hi)
    rw [H3.out.1, HE.out.1] at hcon
    go_wp2_with (go_at_call 25; refine hcon.mono ?_; rintro e w' ⟨rfl, hw⟩; have hw := hw.symm; subst hw)
    go_ret
    exact ⟨ret_bool (by first | rfl | simp), B5.out.trans (b8.mono szw)⟩
end Go.Proofs.Qxb6000759a
