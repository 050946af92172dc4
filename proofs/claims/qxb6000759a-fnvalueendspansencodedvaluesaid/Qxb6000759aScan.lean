/-
  The walks of stringEnd, valueEnd: what the scan of a whole value answers.
-/
import Derived.Test.Qxb6000759aRows
import Derived.Test.Qxb6000759aPlain
import Derived.WalkKit
import Derived.WalkSpells
import Derived.WalkLawsBesides
import Derived.Below
import Derived.Lib.BytesEntry
import Derived.Laws.Externs
import Derived.Lib.Walk
namespace Go.Proofs.Qxb6000759a
open Go.RowKit Pl

/-- The first quote behind bytes that are none. -/
theorem indexByte_at (a r : List Int) (ha : ∀ x ∈ a, 0 ≤ x ∧ x < 256) (hn : ∀ x ∈ a, x ≠ 34) : Lib.indexByte (Lib.bytesOf (a ++ 34 :: r)) 34 = a.length := by
  induction a with
  | nil => rfl
  | cons x l ih =>
    have ih' := ih (fun y hy => ha y (by simp [hy])) (fun y hy => hn y (by simp [hy]))
    have hx := ha x (by simp)
    have hx34 := hn x (by simp)
    have hne : (x.toNat.toUInt8 == 34) = false := by
      rw [beq_eq_false_iff_ne]
      intro e
      have e2 := congrArg UInt8.toNat e
      simp at e2
      omega
    show (if x.toNat.toUInt8 == 34 then (0 : Int) else if Lib.indexByte (Lib.bytesOf (l ++ 34 :: r)) 34 == -1 then -1 else Lib.indexByte (Lib.bytesOf (l ++ 34 :: r)) 34 + 1) = _
    rw [hne, ih']
    have h1 : (((l.length : Nat) : Int) == -1) = false := by rw [beq_eq_false_iff_ne]; omega
    rw [h1]
    simp

set_option maxHeartbeats 1000000 in
set_option maxRecDepth 100000 in
theorem index_any (b o n c : Nat) (xs : List Int) (w : World) (hx : xs.length = n)
    (hc : ∀ i, i < n → w.cell? ⟨b, o + i, none⟩ = some (.int .u8 (xs.getD i 0))) :
    Calls Try.prog 50 #[.slice (some ⟨b, o, none⟩) n c, .int .u8 34] w fun e w' => e = .returned (.int .i64 (Lib.indexByte (Lib.bytesOf xs) 34)) ∧ w' = w := by
  go_enter Try.func50, Try.ntmps50
  go_wp2
  rw [run_callFunc_extern Try.func53 (by kernel_rfl) (by kernel_rfl) (by kernel_rfl) (e := Extern.BytealgIndexByte.indexByte) (by kernel_rfl), Lib.run_indexByteSlice w b o n c xs hx hc 34]
  simp only [Result.andThen]
  rw [Oper.upon_value]
  go_wp2
  go_ret
  exact ⟨rfl, rfl⟩

/-- The next quote behind the k-th byte of b and its closing quote. -/
theorem next_quote (b : List Int) (k : Nat) (hk : k ≤ b.length) : ∃ m, k + m ≤ b.length ∧ (∀ x ∈ (b.drop k).take m, x ≠ 34) ∧ (k + m < b.length → b[k + m]? = some 34) := by
  obtain ⟨d, hd⟩ : ∃ d, d = b.length - k := ⟨_, rfl⟩
  induction d generalizing k with
  | zero => exact ⟨0, by omega, by simp, by omega⟩
  | succ d ih =>
    have hlt : k < b.length := by omega
    by_cases h : b[k] = 34
    · exact ⟨0, by omega, by simp, fun _ => by rw [Nat.add_zero, List.getElem?_eq_getElem hlt, h]⟩
    · obtain ⟨m, h1, h2, h3⟩ := ih (k + 1) (by omega) (by omega)
      refine ⟨m + 1, by omega, ?_, fun hh => ?_⟩
      · rw [List.drop_eq_getElem_cons hlt, List.take_succ_cons]
        intro x hx
        rcases List.mem_cons.1 hx with rfl | hx
        · exact h
        · exact h2 x hx
      · have e : k + (m + 1) = k + 1 + m := by omega
        rw [e]
        exact h3 (by omega)

theorem getD_at {D A R : List Int} {x : Int} (h : D = A ++ x :: R) : D.getD A.length 0 = x := by subst h; simp [List.getD]

/-- Cells of a string inside the data. -/
theorem str_cell {D A b T : List Int} (h : D = A ++ 34 :: (b ++ 34 :: T)) (r : Nat) (hr : r ≤ b.length) : D.getD (A.length + r) 0 = (34 :: b).getD r 0 := by
  subst h
  simp only [List.getD]
  rw [List.getElem?_append_right (by omega), Nat.add_sub_cancel_left, ← List.cons_append, List.getElem?_append_left (by simp; omega)]

theorem quote_split {D A b T : List Int} (h : D = A ++ 34 :: (b ++ 34 :: T)) {k m : Nat} (hm : k + m ≤ b.length) (h3 : k + m < b.length → b[k + m]? = some 34) : ∃ R, D.drop (A.length + k + 1) = (b.drop k).take m ++ 34 :: R := by
  have e1 : D.drop (A.length + k + 1) = b.drop k ++ 34 :: T := by
    rw [h, Nat.add_assoc, ← List.drop_drop, List.drop_left, List.drop_succ_cons, List.drop_append_of_le_length (by omega)]
  have e2 : b.drop k = (b.drop k).take m ++ b.drop (k + m) := by rw [← List.drop_drop, List.take_append_drop]
  by_cases hlt : k + m < b.length
  · have h4 : b[k + m] = 34 := by have := h3 hlt; rw [List.getElem?_eq_getElem hlt] at this; exact Option.some.inj this
    refine ⟨b.drop (k + m + 1) ++ 34 :: T, ?_⟩
    rw [e1]
    conv => lhs; rw [e2, List.drop_eq_getElem_cons hlt, h4]
    simp
  · refine ⟨T, ?_⟩
    rw [e1]
    conv => lhs; rw [e2, List.drop_eq_nil_of_le (by omega : b.length ≤ k + m)]
    simp

theorem tb_take {b : List Int} {r : Nat} (hr : r + 1 ≤ b.length) : tb (b.take (r + 1)) = if b.getD r 0 = 92 then !tb (b.take r) else false := by
  have hlt : r < b.length := by omega
  rw [List.take_succ_eq_append_getElem hlt, tb_snoc]
  simp [List.getD, hlt]

set_option maxHeartbeats 1000000 in
theorem stringEnd_any (g c N : Nat) (D A b T : List Int) (w : World) (hN : N ≤ 35184372088832) (hNc : N ≤ c) (hDl : D.length = N) (hr : ∀ x ∈ D, 0 ≤ x ∧ x < 256) (hD : D = A ++ 34 :: (b ++ 34 :: T)) (hb : OkB b)
    (hc : ∀ i, i < N → w.cell? ⟨g, i, none⟩ = some (.int .u8 (D.getD i 0))) :
    Calls Try.prog 44 #[.slice (some ⟨g, 0, none⟩) N c, .int .i64 (A.length : Nat)] w fun e w' => e = .returned (.int .i64 (((A.length : Nat) : Int) + b.length + 2)) ∧ w' = w := by
  obtain ⟨st, hst⟩ : ∃ st, st = A.length := ⟨_, rfl⟩
  obtain ⟨nb, hnb⟩ : ∃ nb, nb = b.length := ⟨_, rfl⟩
  have hlen : st + nb + 2 + T.length = N := by rw [← hDl, hD]; simp; omega
  have HL : Hid (∀ r, r ≤ nb → D.getD (st + r) 0 = (34 :: b).getD r 0) := fun r hr => by rw [hst]; exact str_cell hD r (by omega)
  have HD : Hid (D = A ++ 34 :: (b ++ 34 :: T)) := hD
  have HR : Hid (∀ x ∈ D, 0 ≤ x ∧ x < 256) := hr
  have HB : Hid (OkB b) := hb
  have HC : Hid (∀ i, i < N → w.cell? ⟨g, i, none⟩ = some (.int .u8 (D.getD i 0))) := hc
  have HS : Hid (st = A.length) := hst
  have HNb : Hid (nb = b.length) := hnb
  have HDl : Hid (D.length = N) := hDl
  rw [← hst, ← hnb]
  clear hD hr hb hc hst hnb hDl
  have hb1 : st + nb + 2 ≤ N := by omega
  clear hlen
  go_enter Try.func44, Try.ntmps44
  go_wp2
  go_loop [1] (fun i => ∃ k : Nat, k ≤ nb ∧ i = .int .i64 ((st : Int) + k)) (fun i => (N - (intOf i).toNat))
  case atStart => exact ⟨0, Nat.zero_le _, by go_num⟩
  case round =>
    obtain ⟨k, hk, rfl⟩ := hrel
    obtain ⟨m, hm1, hm2, hm3⟩ := next_quote b k (by rw [← HNb.out]; exact hk)
    rw [← HNb.out] at hm1 hm3
    have HM : Hid (k + m < nb → b[k + m]? = some 34) := hm3
    have hcon := index_any g (st + k + 1) (N - (st + k + 1)) (c - (st + k + 1)) (D.drop (st + k + 1)) w (by simp [HDl.out]) (fun i hi => by
      have := HC.out (st + k + 1 + i) (by omega)
      rw [this]
      simp [List.getD, List.getElem?_drop])
    have hidx : Lib.indexByte (Lib.bytesOf (D.drop (st + k + 1))) 34 = (m : Int) := by
      obtain ⟨R, hR⟩ := quote_split HD.out (k := k) (m := m) (by rw [← HNb.out]; exact hm1) (by rw [← HNb.out]; exact hm3)
      rw [HS.out, hR, indexByte_at _ _ ?_ hm2]
      · have := HNb.out; simp; omega
      · intro x hx
        refine HR.out x ?_
        have : x ∈ D.drop (A.length + k + 1) := by rw [hR]; exact List.mem_append_left _ hx
        exact List.mem_of_mem_drop this
    rw [hidx] at hcon
    clear hidx hm2 hm3
    go_wp2_with (go_at_call 50; refine hcon.mono ?_; rintro e w' ⟨rfl, hw⟩; have hw := hw.symm; subst hw)
    clear hcon
    go_loop [5, 6] (fun e q => ∃ (r : Nat) (ev : Bool), r ≤ k + m ∧ q = .int .i64 ((st : Int) + r) ∧ e = .bool ev ∧ Hid (tb (b.take (k + m)) = (ev != tb (b.take r)))) (fun _ q => (intOf q).toNat + 1 - st)
    case atStart => exact ⟨k + m, false, Nat.le_refl _, by go_num, rfl, by show _ = _; simp⟩
    case round =>
      obtain ⟨r, ev, hrk, rfl, rfl, hev⟩ := hrel
      have hcr := HC.out (st + r) (by omega)
      rw [HL.out r (by omega)] at hcr
      obtain ⟨x, hx⟩ : ∃ x, x = (34 :: b).getD r 0 := ⟨_, rfl⟩
      rw [← hx] at hcr
      have HX : Hid (x = (34 :: b).getD r 0) := hx
      clear hx
      by_cases h92 : x = 92
      · have hh : (x == 92) = true := by simpa using h92
        have H92 : Hid (x = 92) := h92
        clear h92
        obtain ⟨r', hr'⟩ : ∃ r', r = r' + 1 := by
          rcases r with _ | r'
          · exact absurd (HX.out.symm.trans H92.out) (by simp)
          · exact ⟨r', rfl⟩
        have Hr' : Hid (r = r' + 1) := hr'
        have hrge : r' + 1 ≤ r := by omega
        have hrle : r ≤ r' + 1 := by omega
        clear hr'
        go_wp2
        go_round
        case rel =>
          refine ⟨r', !ev, by omega, by go_num, rfl, ?_⟩
          have h0 := hev.out
          have hx92 : b.getD r' 0 = 92 := by have := HX.out; rw [Hr'.out] at this; rw [← H92.out, this]; rfl
          show _ = _
          rw [h0, Hr'.out, tb_take (by have := HNb.out; omega), if_pos hx92]
          cases ev <;> cases tb (b.take r') <;> rfl
        case measure => simp [intOf]; omega
      · have hh : (x == 92) = false := by simpa using h92
        have H92 : Hid (x ≠ 92) := h92
        clear h92
        have hfin : tb (b.take (k + m)) = ev := by
          have h0 := hev.out
          have : tb (b.take r) = false := by
            rcases r with _ | r'
            · rfl
            · rw [tb_take (by have := HNb.out; omega), if_neg]
              intro e
              exact H92.out (HX.out.trans e)
          rw [h0, this]
          cases ev <;> rfl
        have HF : Hid (tb (b.take (k + m)) = ev) := hfin
        clear hfin hev
        cases ev
        · have hend : nb ≤ k + m := by
            have h0 := HF.out
            by_cases hlt : k + m < nb
            · have := HB.out.2 _ (HM.out hlt)
              rw [h0] at this; cases this
            · omega
          go_wp2
          go_ret
          exact ⟨by go_num, rfl⟩
        · have hlt : k + m < nb := by
            have h0 := HF.out
            by_cases hlt : k + m < nb
            · exact hlt
            · have hk0 : k + m = b.length := by have := HNb.out; omega
              rw [hk0, List.take_length, HB.out.1] at h0
              cases h0
          go_wp2
          go_round
          case rel => exact ⟨k + m + 1, by omega, by go_num⟩
          case measure => simp [intOf]; omega

theorem drop_getD {D : List Int} {p : Nat} {x : Int} {R : List Int} (h : D.drop p = x :: R) : D.getD p 0 = x ∧ D.drop (p + 1) = R ∧ p < D.length := by
  have hlt : p < D.length := by
    rcases Nat.lt_or_ge p D.length with h' | h'
    · exact h'
    · rw [List.drop_eq_nil_of_le h'] at h; cases h
  rw [List.drop_eq_getElem_cons hlt] at h
  injection h with h1 h2
  exact ⟨by simp [List.getD, hlt, h1], h2, hlt⟩

set_option maxHeartbeats 1000000 in
/-- The value is a string. -/
theorem valueEnd_str (g c N : Nat) (D A b T : List Int) (w : World) (hN : N ≤ 35184372088832) (hNc : N ≤ c) (hDl : D.length = N) (hr : ∀ x ∈ D, 0 ≤ x ∧ x < 256) (hD : D = A ++ 34 :: (b ++ 34 :: T)) (hb : OkB b)
    (hc : ∀ i, i < N → w.cell? ⟨g, i, none⟩ = some (.int .u8 (D.getD i 0))) :
    Calls Try.prog 35 #[.slice (some ⟨g, 0, none⟩) N c, .int .i64 (A.length : Nat)] w fun e w' => e = .returned (.int .i64 (((A.length : Nat) : Int) + b.length + 2)) ∧ w' = w := by
  have hcon := stringEnd_any g c N D A b T w hN hNc hDl hr hD hb hc
  have hl : A.length < N := by rw [← hDl, hD]; simp
  have h0 := hc A.length hl
  rw [getD_at hD] at h0
  clear hc hr hD hb hDl
  go_enter Try.func35, Try.ntmps35
  go_wp2_with (go_at_call 44; refine hcon.mono ?_; rintro e w' ⟨rfl, hw⟩; have hw := hw.symm; subst hw)
  go_ret
  exact ⟨rfl, rfl⟩

set_option maxHeartbeats 1000000 in
/-- The value is a number or a word. -/
theorem valueEnd_word (g c N : Nat) (D A E T : List Int) (w : World) (hN : N ≤ 35184372088832) (hDl : D.length = N) (hD : D = A ++ (E ++ T)) (hE : Word E) (hT : T = [] ∨ ∃ t R, T = t :: R ∧ isTerm t = true)
    (hc : ∀ i, i < N → w.cell? ⟨g, i, none⟩ = some (.int .u8 (D.getD i 0))) :
    Calls Try.prog 35 #[.slice (some ⟨g, 0, none⟩) N c, .int .i64 (A.length : Nat)] w fun e w' => e = .returned (.int .i64 (((A.length : Nat) : Int) + E.length)) ∧ w' = w := by
  obtain ⟨⟨h, r, hhr, n1, n2, n3⟩, hall⟩ := hE
  have hlen : A.length + E.length + T.length = N := by rw [← hDl, hD]; simp; omega
  have hEl : 0 < E.length := by rw [hhr]; simp
  have h0 := hc A.length (by omega)
  have e0 : D.getD A.length 0 = h := by rw [hD, hhr]; simp [List.getD]
  rw [e0] at h0
  -- a byte of the word, and the byte behind it
  have HI : Hid (∀ p, p < E.length → isTerm (D.getD (A.length + p) 0) = false) := fun p hp => by
    have e1 : D.getD (A.length + p) 0 = E[p] := by
      rw [hD]; simp only [List.getD]
      rw [List.getElem?_append_right (by omega), Nat.add_sub_cancel_left, List.getElem?_append_left hp, List.getElem?_eq_getElem hp]; rfl
    rw [e1]; exact hall _ (List.getElem_mem hp)
  have HO : Hid (A.length + E.length < N → isTerm (D.getD (A.length + E.length) 0) = true) := fun hp => by
    rcases hT with rfl | ⟨t, R, rfl, ht⟩
    · simp at hlen; omega
    · have e1 : D.getD (A.length + E.length) 0 = t := by
        rw [hD]; simp only [List.getD]
        rw [List.getElem?_append_right (by omega), Nat.add_sub_cancel_left, List.getElem?_append_right (by omega), Nat.sub_self]; simp
      rw [e1]; exact ht
  have HC : Hid (∀ i, i < N → w.cell? ⟨g, i, none⟩ = some (.int .u8 (D.getD i 0))) := hc
  have hle : A.length + E.length ≤ N := by omega
  have b1 : (h == 34) = false := by simpa using n1
  have b2 : (h == 123) = false := by simpa using n2
  have b3 : (h == 91) = false := by simpa using n3
  clear hc hD hDl hT hall hhr n1 n2 n3 e0 hlen
  obtain ⟨st, hst⟩ : ∃ st, st = A.length := ⟨_, rfl⟩
  obtain ⟨ne, hne⟩ : ∃ ne, ne = E.length := ⟨_, rfl⟩
  rw [← hst] at h0 hle HI HO ⊢
  rw [← hne] at hEl hle HI HO ⊢
  clear hst hne
  go_enter Try.func35, Try.ntmps35
  go_wp2
  clear h0
  go_loop [1] (fun i => ∃ p : Nat, p ≤ ne ∧ i = .int .i64 ((st : Int) + p)) (fun i => N - (intOf i).toNat)
  case atStart => exact ⟨0, Nat.zero_le _, by go_num⟩
  case round =>
    obtain ⟨p, hp, rfl⟩ := hrel
    by_cases hlt : p < ne
    · have hcp := HC.out (st + p) (by omega)
      have ht := HI.out p hlt
      obtain ⟨x, hx⟩ : ∃ x, x = D.getD (st + p) 0 := ⟨_, rfl⟩
      rw [← hx] at hcp ht
      clear hx
      simp only [isTerm, decide_eq_false_iff_not, not_or] at ht
      obtain ⟨t1, t2, t3, t4, t5, t6, t7⟩ := ht
      have k1 : (x == 44) = false := by simpa using t1
      have k2 : (x == 125) = false := by simpa using t2
      have k3 : (x == 93) = false := by simpa using t3
      have k4 : (x == 32) = false := by simpa using t4
      have k5 : (x == 9) = false := by simpa using t5
      have k6 : (x == 10) = false := by simpa using t6
      have k7 : (x == 13) = false := by simpa using t7
      clear t1 t2 t3 t4 t5 t6 t7
      go_wp2
      go_round
      case rel => exact ⟨p + 1, by omega, by go_num⟩
      case measure => simp [intOf]; omega
    · have hpe : p = ne := by omega
      subst hpe
      by_cases hend : st + p < N
      · have hcp := HC.out (st + p) hend
        have ht := HO.out hend
        obtain ⟨x, hx⟩ : ∃ x, x = D.getD (st + p) 0 := ⟨_, rfl⟩
        rw [← hx] at hcp ht
        clear hx
        simp only [isTerm, decide_eq_true_eq] at ht
        rcases ht with rfl | rfl | rfl | rfl | rfl | rfl | rfl
        all_goals
          go_wp2
          go_ret
          exact ⟨rfl, rfl⟩
      · go_wp2
        go_ret
        exact ⟨rfl, rfl⟩

set_option maxHeartbeats 2000000 in
/-- The value is an object or an array. -/
theorem valueEnd_cont (g c N : Nat) (D A E T : List Int) (w : World) (hN : N ≤ 35184372088832) (hNc : N ≤ c) (hDl : D.length = N) (hr : ∀ x ∈ D, 0 ≤ x ∧ x < 256) (hD : D = A ++ (E ++ T)) (hE : Cont E) (hF : WEnds 0 E)
    (hc : ∀ i, i < N → w.cell? ⟨g, i, none⟩ = some (.int .u8 (D.getD i 0))) :
    Calls Try.prog 35 #[.slice (some ⟨g, 0, none⟩) N c, .int .i64 (A.length : Nat)] w fun e w' => e = .returned (.int .i64 (((A.length : Nat) : Int) + E.length)) ∧ w' = w := by
  obtain ⟨h, r, hhr, hh⟩ := hE
  obtain ⟨G, hG, hGE, hGf⟩ := hF
  have hlen : A.length + E.length + T.length = N := by rw [← hDl, hD]; simp; omega
  have hEl : 0 < E.length := by rw [hhr]; simp
  have h0 := hc A.length (by omega)
  have e0 : D.getD A.length 0 = h := by rw [hD, hhr]; simp [List.getD]
  rw [e0] at h0
  have HC : Hid (∀ i, i < N → w.cell? ⟨g, i, none⟩ = some (.int .u8 (D.getD i 0))) := hc
  have HG : Hid ((∀ s ∈ G, segOk s) ∧ wends 0 G ∧ D.drop A.length = G.flatten ++ T ∧ A.length + G.flatten.length = A.length + E.length) :=
    ⟨hG, hGf, by rw [hD, List.drop_left, hGE], by rw [hGE]⟩
  have HR : Hid (∀ x ∈ D, 0 ≤ x ∧ x < 256) := hr
  have HDl : Hid (D.length = N) := hDl
  have hle : A.length + E.length ≤ N := by omega
  clear hc hr hD hDl hhr e0 hlen hG hGE hGf
  obtain ⟨st, hst⟩ : ∃ st, st = A.length := ⟨_, rfl⟩
  obtain ⟨en, hne⟩ : ∃ en, en = A.length + E.length := ⟨_, rfl⟩
  have hen : st < en := by omega
  have hfinal : ((A.length : Nat) : Int) + E.length = (en : Int) := by omega
  rw [hfinal]
  rw [← hne] at hle HG
  rw [← hst] at h0 HG ⊢
  clear hst hne hfinal hEl
  rcases hh with rfl | rfl
  all_goals
    go_enter Try.func35, Try.ntmps35
    go_wp2
    clear h0
    go_loop [1, 5] (fun i dp => ∃ (p d : Nat) (G : List (List Int)), p ≤ en ∧ d ≤ p ∧ i = .int .i64 (p : Int) ∧ dp = .int .i64 (d : Int) ∧ Hid ((∀ s ∈ G, segOk s) ∧ wends d G ∧ D.drop p = G.flatten ++ T ∧ p + G.flatten.length = en)) (fun i _ => N - (intOf i).toNat)
    case atStart => exact ⟨st, 0, G, by omega, by omega, rfl, rfl, HG⟩
    case round =>
      obtain ⟨p, d, G, hpe, hdp, rfl, rfl, HI⟩ := hrel
      obtain ⟨s, G', hsG, hok, hGok⟩ : ∃ s G', G = s :: G' ∧ segOk s ∧ ∀ t ∈ G', segOk t := by
        rcases G with _ | ⟨s, G'⟩
        · exact absurd HI.out.2.1 (by simp [wends])
        · exact ⟨s, G', rfl, HI.out.1 s (by simp), fun t ht => HI.out.1 t (by simp [ht])⟩
      have HI2 := HI.out
      rw [hsG, List.flatten_cons] at HI2
      obtain ⟨_, hfn, hdr, hpl⟩ := HI2
      clear HI hsG
      rcases hok with ⟨x, rfl, hx34⟩ | ⟨b, rfl, hbok⟩
      · obtain ⟨ex, hdr', hplt⟩ := drop_getD (x := x) (R := G'.flatten ++ T) (by simpa using hdr)
        rw [HDl.out] at hplt
        have hcp := HC.out p hplt
        rw [ex] at hcp
        have k34 : (x == 34) = false := by simpa using hx34
        have hpl' : p + 1 + G'.flatten.length = en := by simp only [List.length_append, List.length_cons, List.length_nil] at hpl; omega
        have HZ : Hid ((∀ s ∈ G', segOk s) ∧ D.drop (p + 1) = G'.flatten ++ T ∧ p + 1 + G'.flatten.length = en) := ⟨hGok, hdr', hpl'⟩
        have hp1 : p + 1 ≤ en := by omega
        clear hdr hpl hdr' hpl' hGok ex hx34
        by_cases hcl : x = 125 ∨ x = 93
        · have h2 : cls [x] = 2 := by rcases hcl with rfl | rfl <;> simp [cls]
          simp only [wends, h2, if_true] at hfn
          have HFn : Hid ((d = 1 ∧ G' = []) ∨ (2 ≤ d ∧ wends (d - 1) G')) := hfn
          clear hfn h2
          by_cases hd1 : d = 1
          · have hlast : p + 1 = en := by
              rcases HFn.out with ⟨_, h⟩ | ⟨h, _⟩
              · have := HZ.out.2.2; rw [h] at this; simpa using this
              · omega
            have HLs : Hid (p + 1 = en) := hlast
            subst hd1
            clear hlast
            rcases hcl with rfl | rfl
            all_goals
              go_wp2
              go_ret
              exact ⟨by rw [← HLs.out]; go_num, rfl⟩
          · have hd2 : 2 ≤ d ∧ wends (d - 1) G' := by
              rcases HFn.out with ⟨h, _⟩ | h
              · exact absurd h hd1
              · exact h
            have HE : Hid (wends (d - 1) G') := hd2.2
            have hd3 := hd2.1
            clear hd2 hd1
            rcases hcl with rfl | rfl
            all_goals
              go_wp2
              go_round
              case rel => exact ⟨p + 1, d - 1, G', hp1, by omega, by go_num, by go_num, HZ.out.1, HE.out, HZ.out.2.1, HZ.out.2.2⟩
              case measure => simp [intOf]; omega
        · have k125 : (x == 125) = false := by simp only [not_or] at hcl; simpa using hcl.1
          have k93 : (x == 93) = false := by simp only [not_or] at hcl; simpa using hcl.2
          by_cases hop : x = 123 ∨ x = 91
          · have h1 : cls [x] = 1 := by rcases hop with rfl | rfl <;> simp [cls]
            have HE : Hid (wends (d + 1) G') := by show wends (d + 1) G'; simpa [wends, h1] using hfn
            clear hfn h1 hcl
            rcases hop with rfl | rfl
            all_goals
              go_wp2
              go_round
              case rel => exact ⟨p + 1, d + 1, G', hp1, by omega, by go_num, by go_num, HZ.out.1, HE.out, HZ.out.2.1, HZ.out.2.2⟩
              case measure => simp [intOf]; omega
          · have h0' : cls [x] = 0 := by
              simp only [not_or] at hcl hop
              simp [cls, hcl, hop]
            have HE : Hid (wends d G') := by show wends d G'; simpa [wends, h0'] using hfn
            have k123 : (x == 123) = false := by simp only [not_or] at hop; simpa using hop.1
            have k91 : (x == 91) = false := by simp only [not_or] at hop; simpa using hop.2
            clear hfn h0' hcl hop
            go_wp2
            go_round
            case rel => exact ⟨p + 1, d, G', hp1, by omega, by go_num, rfl, HZ.out.1, HE.out, HZ.out.2.1, HZ.out.2.2⟩
            case measure => simp [intOf]; omega
      · have h0' : cls (34 :: (b ++ [34])) = 0 := by simp [cls]
        have HE : Hid (wends d G') := by show wends d G'; simpa [wends, h0'] using hfn
        obtain ⟨ex, _, hplt⟩ := drop_getD (x := 34) (R := b ++ [34] ++ (G'.flatten ++ T)) (by simpa using hdr)
        rw [HDl.out] at hplt
        have hcp := HC.out p hplt
        rw [ex] at hcp
        have hlb : p + b.length + 2 + G'.flatten.length = en := by simp only [List.length_append, List.length_cons, List.length_nil] at hpl; omega
        have hdr2 : D.drop (p + b.length + 2) = G'.flatten ++ T := by
          have : p + b.length + 2 = p + (34 :: (b ++ [34])).length := by simp; omega
          rw [this, ← List.drop_drop, hdr]
          simp
        have htl : (D.take p).length = p := by have := HDl.out; simp; omega
        have hcon := stringEnd_any g c N D (D.take p) b (G'.flatten ++ T) w hN hNc HDl.out HR.out
          (by conv => lhs; rw [← List.take_append_drop p D, hdr]
              simp) hbok HC.out
        rw [htl] at hcon
        have HZ : Hid ((∀ s ∈ G', segOk s) ∧ D.drop (p + b.length + 2) = G'.flatten ++ T ∧ p + b.length + 2 + G'.flatten.length = en) := ⟨hGok, hdr2, hlb⟩
        have hp1 : p + b.length + 2 ≤ en := by omega
        obtain ⟨nb, hnb⟩ : ∃ nb, nb = b.length := ⟨_, rfl⟩
        rw [← hnb] at hcon hp1 HZ
        clear hfn h0' hdr hpl hdr2 hlb htl hGok ex hbok hnb
        go_wp2_with (go_at_call 44; refine hcon.mono ?_; rintro e w' ⟨rfl, hw⟩; have hw := hw.symm; subst hw)
        go_round
        case rel => exact ⟨p + nb + 2, d, G', hp1, by omega, by go_num, rfl, HZ.out.1, HE.out, HZ.out.2.1, HZ.out.2.2⟩
        case measure => simp [intOf]; omega

/-- The value is whole, a byte that may follow it or nothing stands behind it: valueEnd answers the place just behind it. -/
theorem valueEnd_any (g c N : Nat) (D A E T : List Int) (w : World) (hN : N ≤ 35184372088832) (hNc : N ≤ c) (hDl : D.length = N) (hr : ∀ x ∈ D, 0 ≤ x ∧ x < 256) (hD : D = A ++ (E ++ T)) (hE : Val E) (hT : T = [] ∨ ∃ t R, T = t :: R ∧ isTerm t = true)
    (hc : ∀ i, i < N → w.cell? ⟨g, i, none⟩ = some (.int .u8 (D.getD i 0))) :
    Calls Try.prog 35 #[.slice (some ⟨g, 0, none⟩) N c, .int .i64 (A.length : Nat)] w fun e w' => e = .returned (.int .i64 (((A.length : Nat) : Int) + E.length)) ∧ w' = w := by
  rcases hE with ⟨h1, h2⟩ | ⟨b, rfl, hb⟩ | h
  · exact valueEnd_cont g c N D A E T w hN hNc hDl hr hD h1 h2 hc
  · have := valueEnd_str g c N D A b T w hN hNc hDl hr (by rw [hD]; simp) hb hc
    refine this.mono fun e w' ⟨h1, h2⟩ => ⟨?_, h2⟩
    rw [h1]
    congr 2
    simp
    omega
  · exact valueEnd_word g c N D A E T w hN hDl hD h hT hc

set_option maxHeartbeats 400000 in
theorem zzvalueEnd_any (g c N : Nat) (D A E T : List Int) (w : World) (hN : N ≤ 35184372088832) (hNc : N ≤ c) (hDl : D.length = N) (hr : ∀ x ∈ D, 0 ≤ x ∧ x < 256) (hD : D = A ++ (E ++ T)) (hE : Val E) (hT : T = [] ∨ ∃ t R, T = t :: R ∧ isTerm t = true)
    (hc : ∀ i, i < N → w.cell? ⟨g, i, none⟩ = some (.int .u8 (D.getD i 0))) :
    Calls Try.prog 25 #[.slice (some ⟨g, 0, none⟩) N c, .int .i64 (A.length : Nat)] w fun e w' => e = .returned (.int .i64 (((A.length : Nat) : Int) + E.length)) ∧ w' = w := by
  have hcon := valueEnd_any g c N D A E T w hN hNc hDl hr hD hE hT hc
  clear hc hr hD hE hT hDl
  go_enter Try.func25, Try.ntmps25
  go_wp2_with (go_at_call 35; refine hcon.mono ?_; rintro e w' ⟨rfl, hw⟩; have hw := hw.symm; subst hw)
  go_ret
  exact ⟨rfl, rfl⟩
end Go.Proofs.Qxb6000759a
