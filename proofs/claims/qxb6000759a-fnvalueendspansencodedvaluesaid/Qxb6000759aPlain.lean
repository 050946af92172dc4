/-
  The plain law behind 'valueEnd': no Go in sight. Bytes are integers. 'tb': is the number of backslashes at the list's end odd? 'OkB': what may stand between a JSON string's two quotes. 'Pas d O e': a scan that counts braces, begun at depth d, passes over all of O without coming to an end and stands at depth e behind it. 'WEnds d O': it comes to its end just at O's last byte. 'Val O': O is one whole value.
-/
namespace Go.Proofs.Qxb6000759a.Pl

def tbr : List Int → Bool
  | [] => false
  | x :: r => if x = 92 then !tbr r else false
def tb (l : List Int) : Bool := tbr l.reverse
theorem tb_nil : tb [] = false := rfl
theorem tb_snoc (l : List Int) (x : Int) : tb (l ++ [x]) = if x = 92 then !tb l else false := by simp [tb, tbr]
theorem tb_hit (l : List Int) : tb (l ++ [92]) = !tb l := by simp [tb_snoc]
theorem tb_miss (l : List Int) (x : Int) (h : x ≠ 92) : tb (l ++ [x]) = false := by simp [tb_snoc, h]

/-- The run of backslashes at the end of a quote and l is that of l: a quote is no backslash. -/
theorem tbr_append (l : List Int) (x : Int) (h : x ≠ 92) : tbr (l ++ [x]) = tbr l := by
  induction l with
  | nil => simp [tbr, h]
  | cons y r ih => simp only [List.cons_append, tbr, ih]
theorem tb_cons (l : List Int) (x : Int) (h : x ≠ 92) : tb (x :: l) = tb l := by
  simp only [tb, List.reverse_cons]
  exact tbr_append _ x h

def OkB (b : List Int) : Prop := tb b = false ∧ ∀ p, b[p]? = some 34 → tb (b.take p) = true

theorem okb_nil : OkB [] := ⟨rfl, fun p h => by simp at h⟩
theorem okb_plain {l : List Int} {x : Int} (h : OkB l) (h1 : x ≠ 34) (h2 : x ≠ 92) : OkB (l ++ [x]) := by
  refine ⟨tb_miss l x h2, fun p hp => ?_⟩
  by_cases hlt : p < l.length
  · rw [List.getElem?_append_left hlt] at hp
    rw [List.take_append_of_le_length (by omega)]
    exact h.2 p hp
  · rw [List.getElem?_append_right (by omega)] at hp
    match hk : p - l.length with
    | 0 => rw [hk] at hp; simp at hp; exact absurd hp h1
    | k + 1 => rw [hk] at hp; simp at hp
theorem okb_esc {l : List Int} (y : Int) (h : OkB l) : OkB (l ++ [92, y]) := by
  have e : l ++ [92, y] = (l ++ [92]) ++ [y] := by simp
  rw [e]
  refine ⟨?_, fun p hp => ?_⟩
  · by_cases hy : y = 92
    · rw [hy, tb_hit, tb_hit, h.1]; rfl
    · exact tb_miss _ y hy
  · by_cases hlt : p < l.length
    · rw [List.append_assoc, List.getElem?_append_left hlt] at hp
      rw [List.append_assoc, List.take_append_of_le_length (by omega)]
      exact h.2 p hp
    · by_cases h0 : p = l.length
      · subst h0
        rw [List.append_assoc, List.getElem?_append_right (Nat.le_refl _)] at hp
        simp at hp
      · by_cases hq : p = l.length + 1
        · subst hq
          rw [List.take_left' (by simp), tb_hit, h.1]; rfl
        · rw [List.getElem?_eq_none (by simp; omega)] at hp
          cases hp

/-- A piece that the scan takes in one step: one byte that is no quote; or a whole string. -/
def segOk (s : List Int) : Prop := (∃ x, s = [x] ∧ x ≠ 34) ∨ ∃ b, s = 34 :: (b ++ [34]) ∧ OkB b
/-- 2: it closes; 1: it opens; 0: neither. -/
def cls (s : List Int) : Nat := if s = [125] ∨ s = [93] then 2 else if s = [123] ∨ s = [91] then 1 else 0

def pas : Nat → List (List Int) → Nat → Prop
  | d, [], e => d = e
  | d, s :: r, e => if cls s = 2 then 2 ≤ d ∧ pas (d - 1) r e else if cls s = 1 then pas (d + 1) r e else pas d r e
def wends : Nat → List (List Int) → Prop
  | _, [] => False
  | d, s :: r => if cls s = 2 then (d = 1 ∧ r = []) ∨ (2 ≤ d ∧ wends (d - 1) r) else if cls s = 1 then wends (d + 1) r else wends d r

theorem pas_append (a b : List (List Int)) (m e : Nat) (h2 : pas m b e) : ∀ d, pas d a m → pas d (a ++ b) e := by
  induction a with
  | nil => intro d h; cases h; exact h2
  | cons s r ih =>
    intro d h
    simp only [List.cons_append, pas] at h ⊢
    split at h
    · rename_i hc; rw [if_pos hc]; exact ⟨h.1, ih _ h.2⟩
    · rename_i hc
      rw [if_neg hc]
      split at h
      · rename_i hd; rw [if_pos hd]; exact ih _ h
      · rename_i hd; rw [if_neg hd]; exact ih _ h
theorem pas_ends (a b : List (List Int)) (m : Nat) (h2 : wends m b) : ∀ d, pas d a m → wends d (a ++ b) := by
  induction a with
  | nil => intro d h; cases h; exact h2
  | cons s r ih =>
    intro d h
    simp only [List.cons_append, wends, pas] at h ⊢
    split at h
    · rename_i hc; rw [if_pos hc]; exact .inr ⟨h.1, ih _ h.2⟩
    · rename_i hc
      rw [if_neg hc]
      split at h
      · rename_i hd; rw [if_pos hd]; exact ih _ h
      · rename_i hd; rw [if_neg hd]; exact ih _ h

def Pas (d : Nat) (O : List Int) (e : Nat) : Prop := ∃ g : List (List Int), (∀ s ∈ g, segOk s) ∧ g.flatten = O ∧ pas d g e
def WEnds (d : Nat) (O : List Int) : Prop := ∃ g : List (List Int), (∀ s ∈ g, segOk s) ∧ g.flatten = O ∧ wends d g

theorem Pas.append {d m e : Nat} {O N : List Int} (h : Pas d O m) (k : Pas m N e) : Pas d (O ++ N) e := by
  obtain ⟨a, ha, rfl, pa⟩ := h
  obtain ⟨b, hb, rfl, pb⟩ := k
  refine ⟨a ++ b, ?_, by simp, pas_append a b m e pb d pa⟩
  intro s hs
  rcases List.mem_append.1 hs with h | h
  · exact ha s h
  · exact hb s h
theorem Pas.close {d m : Nat} {O N : List Int} (h : Pas d O m) (k : WEnds m N) : WEnds d (O ++ N) := by
  obtain ⟨a, ha, rfl, pa⟩ := h
  obtain ⟨b, hb, rfl, pb⟩ := k
  refine ⟨a ++ b, ?_, by simp, pas_ends a b m pb d pa⟩
  intro s hs
  rcases List.mem_append.1 hs with h | h
  · exact ha s h
  · exact hb s h
theorem Pas.nothing (d : Nat) : Pas d [] d := ⟨[], fun _ h => by simp at h, rfl, rfl⟩
theorem Pas.one {d e : Nat} {s : List Int} (hs : segOk s) (h : pas d [s] e) : Pas d s e :=
  ⟨[s], fun t ht => by rw [List.mem_singleton.1 ht]; exact hs, by simp, h⟩
theorem WEnds.one {d : Nat} {s : List Int} (hs : segOk s) (h : wends d [s]) : WEnds d s :=
  ⟨[s], fun t ht => by rw [List.mem_singleton.1 ht]; exact hs, by simp, h⟩

/-- A byte that neither opens, closes nor quotes. -/
def plainB (x : Int) : Bool := decide (x ≠ 34 ∧ x ≠ 123 ∧ x ≠ 91 ∧ x ≠ 125 ∧ x ≠ 93)
theorem Pas.plain {d : Nat} {x : Int} (h : plainB x = true) : Pas d [x] d := by
  simp only [plainB, decide_eq_true_eq] at h
  refine Pas.one (.inl ⟨x, rfl, h.1⟩) ?_
  have hc : cls [x] = 0 := by simp [cls, h]
  simp [pas, hc]
theorem Pas.plains {d : Nat} {l : List Int} (h : ∀ x ∈ l, plainB x = true) : Pas d l d := by
  induction l with
  | nil => exact Pas.nothing d
  | cons x r ih => exact (Pas.plain (h x (by simp))).append (N := r) (ih fun y hy => h y (by simp [hy]))
theorem Pas.openB {d : Nat} {x : Int} (h : x = 123 ∨ x = 91) : Pas d [x] (d + 1) := by
  rcases h with rfl | rfl <;> exact Pas.one (.inl ⟨_, rfl, by decide⟩) (by simp [pas, cls])
theorem Pas.closeB {d : Nat} {x : Int} (h : x = 125 ∨ x = 93) (hd : 2 ≤ d) : Pas d [x] (d - 1) := by
  rcases h with rfl | rfl <;> exact Pas.one (.inl ⟨_, rfl, by decide⟩) (by simp [pas, cls, hd])
theorem WEnds.closeB {x : Int} (h : x = 125 ∨ x = 93) : WEnds 1 [x] := by
  rcases h with rfl | rfl <;> exact WEnds.one (.inl ⟨_, rfl, by decide⟩) (by simp [wends, cls])
theorem Pas.str {d : Nat} {b : List Int} (h : OkB b) : Pas d (34 :: (b ++ [34])) d := by
  refine Pas.one (.inr ⟨b, rfl, h⟩) ?_
  have hc : cls (34 :: (b ++ [34])) = 0 := by simp [cls]
  simp [pas, hc]

/-- It begins with an opening brace or bracket. -/
def Cont (O : List Int) : Prop := ∃ h r, O = h :: r ∧ (h = 123 ∨ h = 91)
theorem Cont.append {O : List Int} (N : List Int) (h : Cont O) : Cont (O ++ N) := by
  obtain ⟨x, r, rfl, hx⟩ := h
  exact ⟨x, r ++ N, rfl, hx⟩

/-- A byte that may follow a value. -/
def isTerm (x : Int) : Bool := decide (x = 44 ∨ x = 125 ∨ x = 93 ∨ x = 32 ∨ x = 9 ∨ x = 10 ∨ x = 13)
/-- A number or a word: it holds no byte that may follow a value. -/
def Word (O : List Int) : Prop := (∃ h r, O = h :: r ∧ h ≠ 34 ∧ h ≠ 123 ∧ h ≠ 91) ∧ ∀ x ∈ O, isTerm x = false

def Val (O : List Int) : Prop := (Cont O ∧ WEnds 0 O) ∨ (∃ b, O = 34 :: (b ++ [34]) ∧ OkB b) ∨ Word O

/-- What has been written while n containers stand open: nothing; or a beginning of a container. -/
def Mid (O : List Int) (n : Nat) : Prop := (n = 0 ∧ O = []) ∨ (0 < n ∧ Pas 0 O n ∧ Cont O)
/-- .. with the flag 'the value is whole'. -/
def Stt (O : List Int) (n : Nat) (dn : Bool) : Prop := (dn = false ∧ Mid O n) ∨ (dn = true ∧ n = 0 ∧ Val O)

theorem Mid.plains {O N : List Int} {n : Nat} (h : Mid O n) (hn : 0 < n) (hN : ∀ x ∈ N, plainB x = true) : Mid (O ++ N) n := by
  rcases h with ⟨h0, _⟩ | ⟨_, hp, hc⟩
  · omega
  · exact .inr ⟨hn, hp.append (Pas.plains hN), hc.append N⟩
theorem Mid.str {O b : List Int} {n : Nat} (h : Mid O n) (hn : 0 < n) (hb : OkB b) : Mid (O ++ 34 :: (b ++ [34])) n := by
  rcases h with ⟨h0, _⟩ | ⟨_, hp, hc⟩
  · omega
  · exact .inr ⟨hn, hp.append (Pas.str hb), hc.append _⟩
theorem Mid.opens {O : List Int} {n : Nat} {x : Int} (h : Mid O n) (hx : x = 123 ∨ x = 91) : Mid (O ++ [x]) (n + 1) := by
  rcases h with ⟨rfl, rfl⟩ | ⟨_, hp, hc⟩
  · exact .inr ⟨by omega, Pas.openB hx, x, [], rfl, hx⟩
  · exact .inr ⟨by omega, hp.append (Pas.openB hx), hc.append _⟩
/-- A closing brace: the container's end, or the value's. -/
theorem Mid.closes {O : List Int} {n : Nat} {x : Int} (h : Mid O n) (hn : 0 < n) (hx : x = 125 ∨ x = 93) : Stt (O ++ [x]) (n - 1) (decide (n = 1)) := by
  rcases h with ⟨h0, _⟩ | ⟨_, hp, hc⟩
  · omega
  · by_cases h1 : n = 1
    · subst h1
      exact .inr ⟨rfl, rfl, .inl ⟨hc.append _, hp.close (WEnds.closeB hx)⟩⟩
    · refine .inl ⟨by simp [h1], .inr ⟨by omega, hp.append (Pas.closeB hx (by omega)), hc.append _⟩⟩
/-- A string as a value. -/
theorem Mid.strVal {O b : List Int} {n : Nat} (h : Mid O n) (hb : OkB b) : Stt (O ++ 34 :: (b ++ [34])) n (decide (n = 0)) := by
  rcases h with ⟨rfl, rfl⟩ | ⟨hn, hp, hc⟩
  · exact .inr ⟨rfl, rfl, .inr (.inl ⟨b, rfl, hb⟩)⟩
  · exact .inl ⟨by simp; omega, Mid.str (.inr ⟨hn, hp, hc⟩) hn hb⟩
/-- A word as a value. -/
theorem Mid.wordVal {O N : List Int} {n : Nat} (h : Mid O n) (hN : Word N) (hp' : ∀ x ∈ N, plainB x = true) : Stt (O ++ N) n (decide (n = 0)) := by
  rcases h with ⟨rfl, rfl⟩ | ⟨hn, hp, hc⟩
  · exact .inr ⟨rfl, rfl, .inr (.inr hN)⟩
  · exact .inl ⟨by simp; omega, Mid.plains (.inr ⟨hn, hp, hc⟩) hn hp'⟩

/-- Behind the script: what is still open is closed, one by one. -/
def Fine (O : List Int) (n : Nat) : Prop := (n = 0 ∧ Val O) ∨ (0 < n ∧ Pas 0 O n ∧ Cont O)
theorem Stt.good {O : List Int} {n : Nat} {dn : Bool} (h : Stt O n dn) (hO : O ≠ []) : Fine O n := by
  rcases h with ⟨_, ⟨_, h0⟩ | h1⟩ | ⟨_, h2⟩
  · exact absurd h0 hO
  · exact .inr h1
  · exact .inl h2
theorem Fine.closes {O : List Int} {n : Nat} {x : Int} (h : Fine O n) (hn : 0 < n) (hx : x = 125 ∨ x = 93) : Fine (O ++ [x]) (n - 1) := by
  rcases h with ⟨h0, _⟩ | h1
  · omega
  · rcases Mid.closes (.inr h1) hn hx with ⟨e, h2⟩ | ⟨_, h2⟩
    · have : n ≠ 1 := by simpa using e
      rcases h2 with ⟨h0, _⟩ | h2
      · omega
      · exact .inr h2
    · exact .inl h2
end Go.Proofs.Qxb6000759a.Pl
