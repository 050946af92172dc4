/-
  The plain law of 'position': no Go in sight. 'cnt': how many newlines stand among the first k bytes; 'last': the place of the last one among them, or -1.
-/
namespace Go.Proofs.Qxb6000591a.Pl

def cnt (xs : List Int) : Nat → Nat
  | 0 => 0
  | k + 1 => cnt xs k + if xs.getD k 0 = 10 then 1 else 0

def last (xs : List Int) : Nat → Int
  | 0 => -1
  | k + 1 => if xs.getD k 0 = 10 then (k : Int) else last xs k

theorem cnt_hit (xs : List Int) (k : Nat) (h : xs.getD k 0 = 10) : cnt xs (k + 1) = cnt xs k + 1 := by
  show cnt xs k + (if xs.getD k 0 = 10 then 1 else 0) = _
  rw [if_pos h]
theorem cnt_miss (xs : List Int) (k : Nat) (h : ¬ xs.getD k 0 = 10) : cnt xs (k + 1) = cnt xs k := by
  show cnt xs k + (if xs.getD k 0 = 10 then 1 else 0) = _
  rw [if_neg h]; rfl
theorem last_hit (xs : List Int) (k : Nat) (h : xs.getD k 0 = 10) : last xs (k + 1) = k := by
  show (if xs.getD k 0 = 10 then (k : Int) else last xs k) = _
  rw [if_pos h]
theorem last_miss (xs : List Int) (k : Nat) (h : ¬ xs.getD k 0 = 10) : last xs (k + 1) = last xs k := by
  show (if xs.getD k 0 = 10 then (k : Int) else last xs k) = _
  rw [if_neg h]

theorem cnt_le (xs : List Int) (k : Nat) : cnt xs k ≤ k := by
  induction k with
  | zero => exact Nat.le_refl _
  | succ k ih => by_cases h : xs.getD k 0 = 10
                 · rw [cnt_hit xs k h]; omega
                 · rw [cnt_miss xs k h]; omega

theorem last_bd (xs : List Int) (k : Nat) : -1 ≤ last xs k ∧ last xs k < k := by
  induction k with
  | zero => exact ⟨by show (-1 : Int) ≤ -1; omega, by show (-1 : Int) < (0 : Nat); omega⟩
  | succ k ih => by_cases h : xs.getD k 0 = 10
                 · rw [last_hit xs k h]; omega
                 · rw [last_miss xs k h]; omega

theorem cnt_mono (xs : List Int) (a d : Nat) : cnt xs a ≤ cnt xs (a + d) := by
  induction d with
  | zero => exact Nat.le_refl _
  | succ d ih => by_cases h : xs.getD (a + d) 0 = 10
                 · rw [← Nat.add_assoc, cnt_hit xs (a + d) h]; omega
                 · rw [← Nat.add_assoc, cnt_miss xs (a + d) h]; omega

/-- Two places: no newline between them: the last one is the same. One or more: the last one lies between them. -/
theorem last_between (xs : List Int) (a d : Nat) : (cnt xs (a + d) = cnt xs a ∧ last xs (a + d) = last xs a) ∨ (cnt xs a < cnt xs (a + d) ∧ (a : Int) ≤ last xs (a + d)) := by
  induction d with
  | zero => exact .inl ⟨rfl, rfl⟩
  | succ d ih => by_cases h : xs.getD (a + d) 0 = 10
                 · right
                   have hm := cnt_mono xs a d
                   rw [← Nat.add_assoc, cnt_hit xs (a + d) h, last_hit xs (a + d) h]
                   omega
                 · rw [← Nat.add_assoc, cnt_miss xs (a + d) h, last_miss xs (a + d) h]
                   exact ih

theorem last_same {xs : List Int} {a b : Nat} (hab : a ≤ b) (h : cnt xs b = cnt xs a) : last xs b = last xs a := by
  obtain ⟨d, rfl⟩ : ∃ d, b = a + d := ⟨b - a, by omega⟩
  rcases last_between xs a d with ⟨_, h2⟩ | ⟨h1, _⟩
  · exact h2
  · omega
theorem last_ge {xs : List Int} {a b : Nat} (hab : a ≤ b) (h : cnt xs b ≠ cnt xs a) : (a : Int) ≤ last xs b := by
  obtain ⟨d, rfl⟩ : ∃ d, b = a + d := ⟨b - a, by omega⟩
  rcases last_between xs a d with ⟨h1, _⟩ | ⟨_, h2⟩
  · exact absurd h1 h
  · exact h2
theorem cnt_mono' {xs : List Int} {a b : Nat} (hab : a ≤ b) : cnt xs a ≤ cnt xs b := by
  obtain ⟨d, rfl⟩ : ∃ d, b = a + d := ⟨b - a, by omega⟩
  exact cnt_mono xs a d

/-- The number of newlines, as 'List.count' on bytes tells it. -/
theorem cnt_count (xs : List Int) (hb : ∀ x ∈ xs, 0 ≤ x ∧ x < 256) (k : Nat) (hk : k ≤ xs.length) :
    ((xs.take k).map (fun z : Int => z.toNat.toUInt8)).count 10 = cnt xs k := by
  induction k with
  | zero => rfl
  | succ k ih =>
    have hlt : k < xs.length := by omega
    have hx := hb xs[k] (List.getElem_mem hlt)
    have hg : xs.getD k 0 = xs[k] := by simp [List.getD, hlt]
    rw [List.take_succ_eq_append_getElem hlt, List.map_append, List.count_append, ih (by omega)]
    by_cases h : xs[k] = 10
    · rw [cnt_hit xs k (by rw [hg]; exact h)]
      simp [h]
    · rw [cnt_miss xs k (by rw [hg]; exact h)]
      have : xs[k].toNat.toUInt8 ≠ 10 := by
        intro e
        have e2 := congrArg UInt8.toNat e
        simp at e2
        omega
      simp [this]
end Go.Proofs.Qxb6000591a.Pl
