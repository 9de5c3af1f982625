/-
  splitInline, plainly: 'splitF'; the bound on the number of words.
-/
import Derived.Test.Qxb6600352aFacts
namespace Go.Proofs.Qxb6600352a.Plain
set_option linter.unusedVariables false
set_option linter.unusedSimpArgs false

/-- The words of the line from index i on, behind those that are there. -/
def splitF : Nat → List Int → Nat → List (List Int) → Option (List (List Int))
  | 0, _, _, _ => none
  | f + 1, l, i, ws =>
    if i < l.length then
      if isSp (l.getD i 0) = true then splitF f l (i + 1) ws
      else match aw (l.drop i) [] i with
        | none => none
        | some (t, j) => splitF f l j (ws ++ [t])
    else some ws

theorem splitF_end (f : Nat) (l : List Int) (i : Nat) (ws : List (List Int)) (h : ¬ i < l.length) : splitF (f + 1) l i ws = some ws := by
  rw [splitF, if_neg h]
theorem splitF_blank (f : Nat) (l : List Int) (i : Nat) (ws : List (List Int)) (h : i < l.length) (hs : isSp (l.getD i 0) = true) : splitF (f + 1) l i ws = splitF f l (i + 1) ws := by
  rw [splitF, if_pos h, if_pos hs]
theorem splitF_none (f : Nat) (l : List Int) (i : Nat) (ws : List (List Int)) (h : i < l.length) (hs : isSp (l.getD i 0) = false) (ha : aw (l.drop i) [] i = none) : splitF (f + 1) l i ws = none := by
  rw [splitF, if_pos h, if_neg (by simp only [hs]; decide), ha]
theorem splitF_word (f : Nat) (l : List Int) (i : Nat) (ws : List (List Int)) (t : List Int) (j : Nat) (h : i < l.length) (hs : isSp (l.getD i 0) = false) (ha : aw (l.drop i) [] i = some (t, j)) : splitF (f + 1) l i ws = splitF f l j (ws ++ [t]) := by
  rw [splitF, if_pos h, if_neg (by simp only [hs]; decide), ha]

/-- Where the splitter stands: between two words there is a blank. -/
def Parted (l : List Int) (i n : Nat) : Prop := 2 * n ≤ i ∨ (2 * n ≤ i + 1 ∧ (l.length ≤ i ∨ isSp (l.getD i 0) = true))

theorem Parted.start (l : List Int) : Parted l 0 0 := .inl (by omega)
theorem Parted.blank {l : List Int} {i n : Nat} (h : Parted l i n) : Parted l (i + 1) n := by
  rcases h with h | ⟨h, _⟩
  · exact .inl (by omega)
  · exact .inl (by omega)
theorem Parted.word {l : List Int} {i n : Nat} (h : Parted l i n) (hi : i < l.length) (hs : isSp (l.getD i 0) = false) : 2 * n ≤ i := by
  rcases h with h | ⟨h, h2 | h2⟩
  · exact h
  · omega
  · rw [hs] at h2; cases h2
theorem Parted.after {l : List Int} {i n j : Nat} {r t : List Int} (h : Parted l i n) (hi : i < l.length) (hs : isSp (l.getD i 0) = false) (hj : i < j) (hf : Fit (l.drop i) r i t j) : Parted l j (n + 1) ∧ j ≤ l.length := by
  have h2 := h.word hi hs
  obtain ⟨f1, f2, f3, f4⟩ := hf
  have hjl : j ≤ l.length := by simp at f2; omega
  refine ⟨.inr ⟨by omega, ?_⟩, hjl⟩
  rcases Nat.lt_or_ge j l.length with hlt | hge
  · refine .inr ?_
    rw [List.drop_drop, show i + (j - i) = j by omega, List.drop_eq_getElem_cons hlt] at f4
    simp [hlt] at f4
    simp [hlt, f4]
  · exact .inl hge

theorem not_ends (c : Int) (h : isSp c = false) : ends c = false := by
  cases he : ends c with
  | false => rfl
  | true => rw [ends_sp c he] at h; cases h

/-- How many words there are, and how long they are. -/
theorem splitF_size : ∀ (f : Nat) (l : List Int) (i : Nat) (ws ws' : List (List Int)), splitF f l i ws = some ws' → (∀ x ∈ ws, x.length ≤ l.length) → ws'.length ≤ ws.length + f ∧ ∀ x ∈ ws', x.length ≤ l.length := by
  intro f
  induction f with
  | zero => intro l i ws ws' h; simp [splitF] at h
  | succ f ih =>
    intro l i ws ws' h hw
    by_cases hi : i < l.length
    · cases hs : isSp (l.getD i 0) with
      | true =>
        rw [splitF_blank f l i ws hi hs] at h
        obtain ⟨h1, h2⟩ := ih _ _ _ _ h hw
        exact ⟨by omega, h2⟩
      | false =>
        cases ha : aw (l.drop i) [] i with
        | none => rw [splitF_none f l i ws hi hs ha] at h; cases h
        | some p =>
          obtain ⟨t, j⟩ := p
          rw [splitF_word f l i ws t j hi hs ha] at h
          have hfit := aw_fit _ _ _ _ _ ha
          obtain ⟨f1, f2, f3, _⟩ := hfit
          obtain ⟨h1, h2⟩ := ih _ _ _ _ h (by
            intro x hx
            rcases List.mem_append.1 hx with hx | hx
            · exact hw x hx
            · simp at hx f2 f3
              subst hx
              omega)
          exact ⟨by simp at h1; omega, h2⟩
    · rw [splitF_end f l i ws hi] at h
      cases h
      exact ⟨by omega, hw⟩
end Go.Proofs.Qxb6600352a.Plain
