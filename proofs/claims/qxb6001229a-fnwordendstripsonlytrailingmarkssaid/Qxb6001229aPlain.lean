/-
  The plain law of 'wordEnd': no Go in sight. 'st L o k': the word's end and the parentheses left open, behind the first k bytes.
-/
namespace Go.Proofs.Qxb6001229a.Pl

def isMark (x : Int) : Bool := decide (x = 46 ∨ x = 44 ∨ x = 59 ∨ x = 58)

def wstep (k : Nat) (s : Nat × Int) (x : Int) : Nat × Int :=
  if x = 40 then (k + 1, s.2 + 1)
  else if x = 41 then (if s.2 = 0 then s else (k + 1, s.2 - 1))
  else if isMark x = true then s
  else (k + 1, s.2)

def st (L : List Int) (o : Int) : Nat → Nat × Int
  | 0 => (0, o)
  | k + 1 => wstep k (st L o k) (L.getD k 0)

theorem st_succ (L : List Int) (o : Int) (k : Nat) : st L o (k + 1) = wstep k (st L o k) (L.getD k 0) := rfl

/-- Either the byte is passed over, or the word ends behind it. -/
theorem wstep_or (k : Nat) (s : Nat × Int) (x : Int) :
    (wstep k s x = s ∧ (isMark x = true ∨ x = 41)) ∨ ((wstep k s x).1 = k + 1 ∧ isMark x = false ∧ s.2 - 1 ≤ (wstep k s x).2 ∧ (wstep k s x).2 ≤ s.2 + 1) := by
  unfold wstep
  by_cases h40 : x = 40
  · rw [if_pos h40]; right; exact ⟨rfl, by rw [h40]; decide, by show s.2 - 1 ≤ s.2 + 1; omega, Int.le_refl _⟩
  · rw [if_neg h40]
    by_cases h41 : x = 41
    · rw [if_pos h41]
      by_cases h0 : s.2 = 0
      · rw [if_pos h0]; left; exact ⟨rfl, .inr h41⟩
      · rw [if_neg h0]; right; exact ⟨rfl, by rw [h41]; decide, Int.le_refl _, by show s.2 - 1 ≤ s.2 + 1; omega⟩
    · rw [if_neg h41]
      by_cases hm : isMark x = true
      · rw [if_pos hm]; left; exact ⟨rfl, .inl hm⟩
      · rw [if_neg hm]; right; exact ⟨rfl, by simpa using hm, by show s.2 - 1 ≤ s.2; omega, by show s.2 ≤ s.2 + 1; omega⟩

theorem st_bd (L : List Int) (o : Int) (k : Nat) : (st L o k).1 ≤ k ∧ o - k ≤ (st L o k).2 ∧ (st L o k).2 ≤ o + k := by
  induction k with
  | zero => exact ⟨Nat.le_refl _, by show o - (0 : Nat) ≤ o; omega, by show o ≤ o + (0 : Nat); omega⟩
  | succ k ih =>
    rw [st_succ]
    rcases wstep_or k (st L o k) (L.getD k 0) with ⟨h, _⟩ | ⟨h1, _, h2, h3⟩
    · rw [h]; omega
    · omega

/-- What holds of the end. -/
theorem st_inv (L : List Int) (o : Int) (k : Nat) :
    st L o (st L o k).1 = st L o k ∧ (∀ i, (st L o k).1 ≤ i → i < k → isMark (L.getD i 0) = true ∨ L.getD i 0 = 41) ∧ (0 < (st L o k).1 → isMark (L.getD ((st L o k).1 - 1) 0) = false) := by
  induction k with
  | zero => exact ⟨rfl, fun i _ h => absurd h (Nat.not_lt_zero _), fun h => absurd h (Nat.lt_irrefl _)⟩
  | succ k ih =>
    rw [st_succ]
    rcases wstep_or k (st L o k) (L.getD k 0) with ⟨h, hx⟩ | ⟨h1, hx, _⟩
    · rw [h]
      refine ⟨ih.1, fun i hi hk => ?_, ih.2.2⟩
      by_cases hik : i = k
      · rw [hik]; exact hx
      · exact ih.2.1 i hi (by omega)
    · rw [h1]
      refine ⟨rfl, fun i hi hk => by omega, fun _ => ?_⟩
      rw [Nat.add_sub_cancel]
      exact hx

/-- The state behind k bytes hangs on them alone. -/
theorem st_take (L : List Int) (o : Int) (e k : Nat) (h : k ≤ e) : st (L.take e) o k = st L o k := by
  induction k with
  | zero => rfl
  | succ k ih =>
    rw [st_succ, st_succ, ih (by omega)]
    congr 1
    have hk : k < e := by omega
    simp [List.getD, hk]
end Go.Proofs.Qxb6001229a.Pl
