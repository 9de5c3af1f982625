/-
  The plain reader of a quoted string: 'qd'.
-/
namespace Go.Proofs.Qxb6600432a.Plain
set_option linter.unusedVariables false
set_option linter.unusedSimpArgs false

def prin (c : Int) : Bool := decide (32 ≤ c) && decide (c ≤ 126)
/-- What lies ahead, the index, plain so far: the closing quote's index, and whether it is plain. -/
def qd : List Int → Nat → Bool → Option (Nat × Bool)
  | [], _, _ => none
  | [c], i, p => if c = 34 then some (i, p) else none
  | c :: d :: s, i, p => if c = 34 then some (i, p) else if c = 92 then qd s (i + 2) false else qd (d :: s) (i + 1) (p && prin c)

theorem qd_q (s : List Int) (i : Nat) (p : Bool) : qd (34 :: s) i p = some (i, p) := by
  cases s <;> simp [qd]
theorem qd_bs (s : List Int) (i : Nat) (p : Bool) : qd (92 :: s) i p = qd (s.drop 1) (i + 2) false := by
  match s with
  | [] => simp [qd]
  | _ :: _ => simp [qd]
theorem qd_c (c : Int) (s : List Int) (i : Nat) (p : Bool) (h1 : ¬ c = 34) (h2 : ¬ c = 92) : qd (c :: s) i p = qd s (i + 1) (p && prin c) := by
  cases s with
  | nil => simp [qd, h1]
  | cons d s => rw [qd]; simp [h1, h2]
end Go.Proofs.Qxb6600432a.Plain
