/-
  The encoder of a JSON string's inside, plainly, and the plain laws.
-/
import Derived.Test.Qxb6600432aFacts
namespace Go.Proofs.Qxb6600432a.Plain
set_option linter.unusedVariables false
set_option linter.unusedSimpArgs false

/-- Is the k-th byte c escaped? -/
def escd (es : List Bool) (k : Nat) (c : Int) : Bool := (c == 34 || c == 92) || (decide (k < es.length) && es.getD k false)
def encF (es : List Bool) : Nat → List Int → List Int
  | _, [] => []
  | k, c :: cs => (if escd es k c = true then [92, c] else [c]) ++ encF es (k + 1) cs
def plF (es : List Bool) : Nat → List Int → Bool
  | _, [] => true
  | k, c :: cs => (!escd es k c && prin c) && plF es (k + 1) cs

theorem encF_len (es : List Bool) : ∀ (cs : List Int) (k : Nat), (encF es k cs).length ≤ 2 * cs.length := by
  intro cs
  induction cs with
  | nil => intro k; simp [encF]
  | cons c cs ih =>
    intro k
    have := ih (k + 1)
    rw [encF]
    split <;> simp <;> omega

theorem escd_no {es : List Bool} {k : Nat} {c : Int} (h : escd es k c = false) : ¬ c = 34 ∧ ¬ c = 92 := by
  simp [escd] at h
  exact h.1

theorem qd_enc (es : List Bool) : ∀ (cs : List Int) (k i : Nat) (p : Bool) (t : List Int), qd (encF es k cs ++ 34 :: t) i p = some (i + (encF es k cs).length, p && plF es k cs) := by
  intro cs
  induction cs with
  | nil => intro k i p t; simp [encF, plF, qd_q]
  | cons c cs ih =>
    intro k i p t
    rw [encF, plF]
    cases he : escd es k c with
    | true =>
      simp only [if_true, List.cons_append, List.nil_append]
      rw [qd_bs]
      simp only [List.drop_succ_cons, List.drop_zero]
      rw [ih (k + 1) (i + 2) false t]
      simp
      omega
    | false =>
      obtain ⟨h1, h2⟩ := escd_no he
      simp only [Bool.false_eq_true, if_false, List.cons_append, List.nil_append]
      rw [qd_c _ _ _ _ h1 h2, ih (k + 1) (i + 1) (p && prin c) t]
      simp [Bool.and_assoc]
      omega
theorem qd_open (es : List Bool) : ∀ (cs : List Int) (k i : Nat) (p : Bool) (t : List Int), (t = [] ∨ t = [92]) → qd (encF es k cs ++ t) i p = none := by
  intro cs
  induction cs with
  | nil =>
    intro k i p t ht
    rcases ht with rfl | rfl
    · simp [encF, qd]
    · simp [encF, qd]
  | cons c cs ih =>
    intro k i p t ht
    rw [encF]
    cases he : escd es k c with
    | true =>
      simp only [if_true, List.cons_append, List.nil_append]
      rw [qd_bs]
      simp only [List.drop_succ_cons, List.drop_zero]
      exact ih (k + 1) (i + 2) false t ht
    | false =>
      obtain ⟨h1, h2⟩ := escd_no he
      simp only [Bool.false_eq_true, if_false, List.cons_append, List.nil_append]
      rw [qd_c _ _ _ _ h1 h2]
      exact ih (k + 1) (i + 1) (p && prin c) t ht

theorem qz_enc (es : List Bool) (cs t : List Int) : qz (34 :: (encF es 0 cs ++ 34 :: t)) false = some ((encF es 0 cs).length + 1, plF es 0 cs) := by
  simp only [qz, Bool.false_eq_true, if_false, if_true]
  rw [qd_enc]
  simp
  omega
theorem qz_open (es : List Bool) (cs t : List Int) (ht : t = [] ∨ t = [92]) : qz (34 :: (encF es 0 cs ++ t)) false = none := by
  simp only [qz, Bool.false_eq_true, if_false, if_true]
  exact qd_open es cs 0 1 true t ht
end Go.Proofs.Qxb6600432a.Plain
