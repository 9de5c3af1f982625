/-
  Plain facts on 'aq' and 'aw': where they end, how long the text is.
-/
import Derived.Test.Qxb6600352aModel
namespace Go.Proofs.Qxb6600352a.Plain
set_option linter.unusedVariables false
set_option linter.unusedSimpArgs false

/-- What a reader's answer says of the place where it ends. -/
def Fit (s r : List Int) (i : Nat) (r' : List Int) (j : Nat) : Prop :=
  i ≤ j ∧ j ≤ i + s.length ∧ r'.length + i ≤ r.length + j ∧ (s.drop (j - i)).head?.any (fun d => !isSp d) = false

theorem Fit.step {s : List Int} {r r2 r' : List Int} {i j k : Nat} (u : List Int) (hk : u.length = k) (h : Fit s r2 (i + k) r' j) (hr : r2.length ≤ r.length + k) : Fit (u ++ s) r i r' j := by
  obtain ⟨h1, h2, h3, h4⟩ := h
  refine ⟨by omega, by simp; omega, by omega, ?_⟩
  rw [List.drop_append, List.drop_eq_nil_of_le (by omega), List.nil_append, hk]
  rw [show j - i - k = j - (i + k) by omega]
  exact h4

theorem aq_fit : ∀ (n : Nat) (s : List Int), s.length ≤ n → ∀ (q : Int) (r : List Int) (i : Nat) (r' : List Int) (j : Nat), aq q s r i = some (r', j) → i < j ∧ Fit s r i r' j := by
  intro n
  induction n with
  | zero =>
    intro s hs q r i r' j h
    obtain rfl : s = [] := List.eq_nil_of_length_eq_zero (by omega)
    simp [aq] at h
  | succ n ih =>
    intro s hs q r i r' j h
    cases s with
    | nil => simp [aq] at h
    | cons c s =>
      have hs' : s.length ≤ n := by simpa using hs
      by_cases hq : c = q
      · subst hq
        rw [aq_close] at h
        split at h
        · cases h
        · rename_i hany
          cases h
          refine ⟨by omega, by omega, by simp, by omega, ?_⟩
          rw [show i + 1 - i = 1 by omega]
          simpa using hany
      · by_cases h39 : c = 92 ∧ q = 39 ∧ s.head? = some 39
        · obtain ⟨rfl, rfl, hh⟩ := h39
          match s, hh with
          | d :: s, hh =>
            simp at hh
            subst hh
            rw [aq_sq] at h
            obtain ⟨h1, h2⟩ := ih s (by simp at hs'; omega) 39 _ _ _ _ h
            exact ⟨by omega, Fit.step [92, 39] rfl h2 (by simp)⟩
        · by_cases h34 : c = 92 ∧ q = 34 ∧ ¬ s = []
          · obtain ⟨rfl, rfl, hne⟩ := h34
            match s, hne with
            | d :: s, _ =>
              cases hx : hexAhead (d :: s) with
              | true =>
                match s, hx with
                | h1 :: h2 :: s, hx =>
                  simp [hexAhead] at hx
                  obtain ⟨⟨rfl, e1⟩, e2⟩ := hx
                  rw [aq_hex _ _ _ _ _ e1 e2] at h
                  obtain ⟨g1, g2⟩ := ih s (by simp at hs'; omega) 34 _ _ _ _ h
                  exact ⟨by omega, Fit.step [92, 120, h1, h2] rfl g2 (by simp)⟩
                | [_], hx => simp [hexAhead] at hx
                | [], hx => simp [hexAhead] at hx
              | false =>
                rw [aq_esc _ _ _ _ hx] at h
                obtain ⟨g1, g2⟩ := ih s (by simp at hs'; omega) 34 _ _ _ _ h
                exact ⟨by omega, Fit.step [92, d] rfl g2 (by simp)⟩
            | [], hne => exact absurd rfl hne
          · rw [aq_plain _ _ _ _ _ hq h39 h34] at h
            obtain ⟨g1, g2⟩ := ih s hs' q _ _ _ _ h
            exact ⟨by omega, Fit.step [c] rfl g2 (by simp)⟩

theorem ends_sp (c : Int) (h : ends c = true) : isSp c = true := by
  rw [ends_iff] at h; rw [isSp_iff]; omega

theorem aw_fit : ∀ (s : List Int) (r : List Int) (i : Nat) (r' : List Int) (j : Nat), aw s r i = some (r', j) → Fit s r i r' j := by
  intro s
  induction s with
  | nil =>
    intro r i r' j h
    simp [aw] at h
    obtain ⟨rfl, rfl⟩ := h
    exact ⟨by omega, by omega, by omega, by simp⟩
  | cons c s ih =>
    intro r i r' j h
    rw [aw] at h
    by_cases h1 : ends c = true
    · rw [if_pos h1] at h
      cases h
      exact ⟨by omega, by omega, by omega, by simp [ends_sp c h1]⟩
    · rw [if_neg h1] at h
      by_cases h2 : c = 34 ∨ c = 39
      · rw [if_pos h2] at h
        exact Fit.step [c] rfl (aq_fit s.length s (Nat.le_refl _) c _ _ _ _ h).2 (by simp)
      · rw [if_neg h2] at h
        exact Fit.step [c] rfl (ih _ _ _ _ h) (by simp)

theorem aw_lt (c : Int) (s r : List Int) (i : Nat) (r' : List Int) (j : Nat) (hc : ends c = false) (h : aw (c :: s) r i = some (r', j)) : i < j := by
  rw [aw, if_neg (by simp [hc])] at h
  by_cases h2 : c = 34 ∨ c = 39
  · rw [if_pos h2] at h
    have := (aq_fit s.length s (Nat.le_refl _) c _ _ _ _ h).1
    omega
  · rw [if_neg h2] at h
    have := (aw_fit _ _ _ _ _ h).1
    omega

/-- The room ahead is carried along. -/
theorem aw_room (s r : List Int) (i : Nat) : aw s r i = (aw s [] i).map (fun p => (r ++ p.1, p.2)) := by
  have h1 := aw_run s 0 0 r [] i
  have h2 := aw_run s 0 0 [] [] i
  rw [List.append_nil] at h1
  rw [List.append_nil] at h2
  rw [h1, h2]
  cases run s 0 0 0 [] i <;> simp
end Go.Proofs.Qxb6600352a.Plain
