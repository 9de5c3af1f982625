/-
  Plain facts on 'qd'.
-/
import Derived.Test.Qxb6600432aPlain
namespace Go.Proofs.Qxb6600432a.Plain
set_option linter.unusedVariables false
set_option linter.unusedSimpArgs false

theorem qd_facts : ∀ (n : Nat) (s : List Int), s.length ≤ n → ∀ (i : Nat) (p : Bool) (j : Nat) (p' : Bool), qd s i p = some (j, p') →
    ∃ d, j = i + d ∧ d < s.length ∧ s.getD d 0 = 34 ∧ (p' = true → p = true ∧ ∀ k, k < d → prin (s.getD k 0) = true ∧ ¬ s.getD k 0 = 92) ∧ qd (s.take (d + 1)) i p = some (j, p') := by
  intro n
  induction n with
  | zero =>
    intro s hs i p j p' h
    obtain rfl : s = [] := List.eq_nil_of_length_eq_zero (by omega)
    simp [qd] at h
  | succ n ih =>
    intro s hs i p j p' h
    cases s with
    | nil => simp [qd] at h
    | cons c s =>
      have hs' : s.length ≤ n := by simpa using hs
      by_cases h34 : c = 34
      · subst h34
        rw [qd_q] at h
        cases h
        exact ⟨0, rfl, by simp, rfl, fun e => ⟨e, fun k hk => by omega⟩, by rw [List.take_succ_cons, qd_q]⟩
      · by_cases h92 : c = 92
        · subst h92
          rw [qd_bs] at h
          cases s with
          | nil => simp [qd] at h
          | cons x s =>
            simp only [List.drop_succ_cons, List.drop_zero] at h
            obtain ⟨d, rfl, hd, h1, h2, h3⟩ := ih s (by simp at hs'; omega) _ _ _ _ h
            refine ⟨d + 2, by omega, by simp; omega, ?_, ?_, ?_⟩
            · simpa using h1
            · intro e; have := (h2 e).1; cases this
            · rw [List.take_succ_cons, List.take_succ_cons, qd_bs]
              simpa using h3
        · rw [qd_c _ _ _ _ h34 h92] at h
          obtain ⟨d, rfl, hd, h1, h2, h3⟩ := ih s hs' _ _ _ _ h
          refine ⟨d + 1, by omega, by simp; omega, by simpa using h1, ?_, ?_⟩
          · intro e
            obtain ⟨g1, g2⟩ := h2 e
            simp at g1
            refine ⟨g1.1, ?_⟩
            intro k hk
            cases k with
            | zero => exact ⟨g1.2, h92⟩
            | succ k => simpa using g2 k (by omega)
          · rw [List.take_succ_cons, qd_c _ _ _ _ h34 h92]
            exact h3

/-- The answer of the whole reader, on the whole bytes. -/
def qz (l : List Int) (f : Bool) : Option (Nat × Bool) := if f = true then none else match l with
  | [] => none
  | c :: s => if c = 34 then qd s 1 true else none

theorem qz_facts {l : List Int} {f : Bool} {i : Nat} {p : Bool} (h : qz l f = some (i, p)) :
    f = false ∧ 1 ≤ i ∧ i < l.length ∧ l.getD 0 0 = 34 ∧ l.getD i 0 = 34 ∧ (p = true → ∀ k, 1 ≤ k → k < i → prin (l.getD k 0) = true ∧ ¬ l.getD k 0 = 92) ∧ qz (l.take (i + 1)) false = some (i, p) := by
  cases f with
  | true => simp [qz] at h
  | false =>
    cases l with
    | nil => simp [qz] at h
    | cons c s =>
      by_cases h34 : c = 34
      · subst h34
        have h' : qd s 1 true = some (i, p) := by simpa [qz] using h
        obtain ⟨d, rfl, hd, h1, h2, h3⟩ := qd_facts _ _ (Nat.le_refl _) _ _ _ _ h'
        refine ⟨rfl, by omega, by simp; omega, rfl, ?_, ?_, ?_⟩
        · rw [Nat.add_comm]; simpa using h1
        · intro e k hk1 hk2
          obtain ⟨m, rfl⟩ : ∃ m, k = m + 1 := ⟨k - 1, by omega⟩
          simpa using (h2 e).2 m (by omega)
        · rw [Nat.add_comm 1 d]
          rw [Nat.add_comm 1 d] at h3
          simpa [qz] using h3
      · simp [qz, h34] at h
end Go.Proofs.Qxb6600432a.Plain
