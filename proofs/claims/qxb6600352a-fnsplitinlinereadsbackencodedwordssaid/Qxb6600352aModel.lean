/-
  The plain functions that the two readers compute: 'aq' (appendQuoted), 'aw' (appendWord), 'run' (the model), and the plain law: they answer alike.
-/
import Derived.Test.Qxb6600352aPlain
namespace Go.Proofs.Qxb6600352a.Plain
set_option linter.unusedVariables false
set_option linter.unusedSimpArgs false

/-- appendQuoted: what lies ahead, the text so far, the index. -/
def aq (q : Int) : List Int → List Int → Nat → Option (List Int × Nat)
  | [], _, _ => none
  | [c], r, i => if c = q then some (r, i + 1) else none
  | c :: d :: s, r, i =>
    if c = q then (if isSp d = true then some (r, i + 1) else none)
    else if c = 92 ∧ q = 39 ∧ d = 39 then aq q s (r ++ [39]) (i + 2)
    else if c = 92 ∧ q = 34 then
      match s with
      | h1 :: h2 :: s2 => if d = 120 ∧ isHx h1 = true ∧ isHx h2 = true then aq q s2 (r ++ [hexV h1 * 16 + hexV h2]) (i + 4) else aq q (h1 :: h2 :: s2) (r ++ [unesc d]) (i + 2)
      | [h1] => aq q [h1] (r ++ [unesc d]) (i + 2)
      | [] => none
    else aq q (d :: s) (r ++ [c]) (i + 1)

/-- appendWord. -/
def aw : List Int → List Int → Nat → Option (List Int × Nat)
  | [], r, i => some (r, i)
  | c :: s, r, i => if ends c = true then some (r, i) else if c = 34 ∨ c = 39 then aq c s r (i + 1) else aw s (r ++ [c]) (i + 1)

/-- The steps of the model that stay where they are. -/
def stay (st : Nat) (c q f : Int) : Bool := (st == 2 && q == 39 && !(c == 39)) || (st == 3 && !isHx c) || (decide (4 ≤ st) && !isHx c)
def stayed (st : Nat) (f : Int) (w : List Int) : List Int := if st = 2 then w ++ [92] else if st = 3 then w ++ [120] else w ++ [120, f]

/-- The model: what lies ahead, the state, the quote, the first hex digit, the text so far, the index. -/
def run : List Int → Nat → Int → Int → List Int → Nat → Option (List Int × Nat)
  | [], st, _, _, w, k => if st = 0 then some (w, k) else none
  | c :: s, st0, q, f, w0, k =>
    let st := if stay st0 c q f = true then 1 else st0
    let w := if stay st0 c q f = true then stayed st0 f w0 else w0
    if st = 0 then
      if ends c = true then some (w, k) else if c = 34 ∨ c = 39 then run s 1 c f w (k + 1) else run s 0 q f (w ++ [c]) (k + 1)
    else if st = 1 then
      if c = q then (if s.head?.any (fun d => !isSp d) = true then none else some (w, k + 1))
      else if c = 92 ∧ (q = 34 ∨ q = 39) then run s 2 q f w (k + 1) else run s 1 q f (w ++ [c]) (k + 1)
    else if st = 2 then
      if q = 39 then run s 1 q f (w ++ [39]) (k + 1)
      else if c = 120 then run s 3 q f w (k + 1) else run s 1 q f (w ++ [unesc c]) (k + 1)
    else if st = 3 then run s 4 q c w (k + 1)
    else run s 1 q f (w ++ [hexV f * 16 + hexV c]) (k + 1)

/-! ### The model, step by step -/
theorem stay_no (c q f : Int) : stay 0 c q f = false ∧ stay 1 c q f = false := by simp [stay]
theorem run_stay (c : Int) (s : List Int) (st : Nat) (q f : Int) (w : List Int) (k : Nat) (h : stay st c q f = true) : run (c :: s) st q f w k = run (c :: s) 1 q f (stayed st f w) k := by
  rw [run, run]
  simp [h, (stay_no c q f).2]
theorem run_0 (c : Int) (s : List Int) (q f : Int) (w : List Int) (k : Nat) : run (c :: s) 0 q f w k = if ends c = true then some (w, k) else if c = 34 ∨ c = 39 then run s 1 c f w (k + 1) else run s 0 q f (w ++ [c]) (k + 1) := by
  rw [run]; simp [(stay_no c q f).1]
theorem run_1 (c : Int) (s : List Int) (q f : Int) (w : List Int) (k : Nat) : run (c :: s) 1 q f w k = if c = q then (if s.head?.any (fun d => !isSp d) = true then none else some (w, k + 1)) else if c = 92 ∧ (q = 34 ∨ q = 39) then run s 2 q f w (k + 1) else run s 1 q f (w ++ [c]) (k + 1) := by
  rw [run]; simp [(stay_no c q f).2]
theorem run_2sq (s : List Int) (f : Int) (w : List Int) (k : Nat) : run (39 :: s) 2 39 f w k = run s 1 39 f (w ++ [39]) (k + 1) := by
  rw [run]; simp [stay]
theorem run_2sqno (c : Int) (s : List Int) (f : Int) (w : List Int) (k : Nat) (h : ¬ c = 39) : run (c :: s) 2 39 f w k = run (c :: s) 1 39 f (w ++ [92]) k := by
  rw [run_stay _ _ _ _ _ _ _ (by simp [stay, h])]; rfl
theorem run_2x (s : List Int) (q f : Int) (w : List Int) (k : Nat) (h : ¬ q = 39) : run (120 :: s) 2 q f w k = run s 3 q f w (k + 1) := by
  rw [run]; simp [stay, h]
theorem run_2 (c : Int) (s : List Int) (q f : Int) (w : List Int) (k : Nat) (h : ¬ q = 39) (hc : ¬ c = 120) : run (c :: s) 2 q f w k = run s 1 q f (w ++ [unesc c]) (k + 1) := by
  rw [run]; simp [stay, h, hc]
theorem run_3no (c : Int) (s : List Int) (q f : Int) (w : List Int) (k : Nat) (h : isHx c = false) : run (c :: s) 3 q f w k = run (c :: s) 1 q f (w ++ [120]) k := by
  rw [run_stay _ _ _ _ _ _ _ (by simp [stay, h])]; rfl
theorem run_3 (c : Int) (s : List Int) (q f : Int) (w : List Int) (k : Nat) (h : isHx c = true) : run (c :: s) 3 q f w k = run s 4 q c w (k + 1) := by
  rw [run]; simp [stay, h]
theorem run_4no (c : Int) (s : List Int) (st : Nat) (q f : Int) (w : List Int) (k : Nat) (hs : 4 ≤ st) (h : isHx c = false) : run (c :: s) st q f w k = run (c :: s) 1 q f (w ++ [120, f]) k := by
  rw [run_stay _ _ _ _ _ _ _ (by simp [stay, h, hs])]
  unfold stayed
  rw [if_neg (by omega), if_neg (by omega)]
theorem run_4 (c : Int) (s : List Int) (st : Nat) (q f : Int) (w : List Int) (k : Nat) (hs : 4 ≤ st) (h : isHx c = true) : run (c :: s) st q f w k = run s 1 q f (w ++ [hexV f * 16 + hexV c]) (k + 1) := by
  rw [run]
  have h2 : stay st c q f = false := by
    simp [stay, h]; omega
  simp only [h2, Bool.false_eq_true, if_false]
  rw [if_neg (by omega), if_neg (by omega), if_neg (by omega), if_neg (by omega)]

/-! ### appendQuoted, step by step -/
theorem hx_ne (c : Int) (h : isHx c = true) : ¬ c = 34 ∧ ¬ c = 39 ∧ ¬ c = 92 := by
  rw [isHx_iff] at h; omega
theorem aq_close (q : Int) (s r : List Int) (i : Nat) : aq q (q :: s) r i = if s.head?.any (fun d => !isSp d) = true then none else some (r, i + 1) := by
  cases s with
  | nil => simp [aq]
  | cons d s => rw [aq.eq_def]; cases h : isSp d <;> simp [h]
theorem aq_sq (s r : List Int) (i : Nat) : aq 39 (92 :: 39 :: s) r i = aq 39 s (r ++ [39]) (i + 2) := by
  rw [aq.eq_def]; simp
theorem aq_hex (h1 h2 : Int) (s r : List Int) (i : Nat) (e1 : isHx h1 = true) (e2 : isHx h2 = true) : aq 34 (92 :: 120 :: h1 :: h2 :: s) r i = aq 34 s (r ++ [hexV h1 * 16 + hexV h2]) (i + 4) := by
  rw [aq.eq_def]; simp [e1, e2]
/-- Is there a whole hex escape behind the backslash? -/
def hexAhead : List Int → Bool
  | d :: h1 :: h2 :: _ => d == 120 && isHx h1 && isHx h2
  | _ => false
theorem aq_esc (d : Int) (s r : List Int) (i : Nat) (h : hexAhead (d :: s) = false) : aq 34 (92 :: d :: s) r i = aq 34 s (r ++ [unesc d]) (i + 2) := by
  rw [aq.eq_def]
  match s, h with
  | [], _ => simp [aq]
  | [h1], _ => simp
  | h1 :: h2 :: s, h =>
    simp [hexAhead] at h
    simp
    intro a b c
    simp [h a b] at c
theorem aq_plain (q c : Int) (s r : List Int) (i : Nat) (hq : ¬ c = q) (h1 : ¬ (c = 92 ∧ q = 39 ∧ s.head? = some 39)) (h2 : ¬ (c = 92 ∧ q = 34 ∧ ¬ s = [])) : aq q (c :: s) r i = aq q s (r ++ [c]) (i + 1) := by
  cases s with
  | nil => simp [aq, hq]
  | cons d s =>
    rw [aq.eq_def]
    dsimp only
    rw [if_neg hq, if_neg (by simpa using h1), if_neg (by simpa using h2)]

/-- THE PLAIN LAW: appendQuoted answers as the model does from state 1 on. -/
theorem aq_run : ∀ (n : Nat) (s : List Int), s.length ≤ n → ∀ (q f : Int) (r w : List Int) (i : Nat), aq q s (r ++ w) i = (run s 1 q f w i).map (fun p => (r ++ p.1, p.2)) := by
  intro n
  induction n with
  | zero =>
    intro s hs q f r w i
    obtain rfl : s = [] := List.eq_nil_of_length_eq_zero (by omega)
    simp [aq, run]
  | succ n ih =>
    intro s hs q f r w i
    cases s with
    | nil => simp [aq, run]
    | cons c s =>
      have hs' : s.length ≤ n := by simpa using hs
      by_cases hq : c = q
      · subst hq
        rw [aq_close, run_1, if_pos rfl]
        split <;> simp
      · rw [run_1, if_neg hq]
        by_cases h39 : c = 92 ∧ q = 39
        · obtain ⟨rfl, rfl⟩ := h39
          rw [if_pos ⟨rfl, .inr rfl⟩]
          cases s with
          | nil => rw [aq_plain _ _ _ _ _ hq (by simp) (by simp)]; simp [aq, run]
          | cons d s =>
            by_cases hd : d = 39
            · subst hd
              rw [aq_sq, run_2sq, List.append_assoc]
              exact ih s (by simp at hs'; omega) 39 f r (w ++ [39]) (i + 2)
            · rw [aq_plain _ _ _ _ _ hq (by simp [hd]) (by simp), run_2sqno _ _ _ _ _ hd, List.append_assoc]
              exact ih (d :: s) hs' 39 f r (w ++ [92]) (i + 1)
        · by_cases h34 : c = 92 ∧ q = 34
          · obtain ⟨rfl, rfl⟩ := h34
            rw [if_pos ⟨rfl, .inl rfl⟩]
            cases s with
            | nil => rw [aq_plain _ _ _ _ _ hq (by simp) (by simp)]; simp [aq, run]
            | cons d s =>
              have hs2 : s.length ≤ n := by simp at hs'; omega
              by_cases hd : d = 120
              · subst hd
                rw [run_2x _ _ _ _ _ (by decide)]
                cases s with
                | nil => rw [aq_esc _ _ _ _ (by rfl)]; simp [aq, run]
                | cons h1 s =>
                  cases e1 : isHx h1 with
                  | false =>
                    rw [aq_esc _ _ _ _ (by cases s <;> simp [hexAhead, e1]), run_3no _ _ _ _ _ _ e1, List.append_assoc]
                    exact ih (h1 :: s) hs2 34 f r (w ++ [120]) (i + 2)
                  | true =>
                    rw [run_3 _ _ _ _ _ _ e1]
                    have hne := hx_ne h1 e1
                    cases s with
                    | nil => rw [aq_esc _ _ _ _ (by rfl), aq_plain _ _ _ _ _ hne.1 (by simp) (by simp)]; simp [aq, run]
                    | cons h2 s =>
                      cases e2 : isHx h2 with
                      | true =>
                        rw [aq_hex _ _ _ _ _ e1 e2, run_4 _ _ _ _ _ _ _ (by omega) e2, List.append_assoc]
                        exact ih s (by simp at hs2; omega) 34 h1 r (w ++ [hexV h1 * 16 + hexV h2]) (i + 4)
                      | false =>
                        rw [aq_esc _ _ _ _ (by simp [hexAhead, e1, e2]), aq_plain _ _ _ _ _ hne.1 (by simp [hne]) (by simp [hne]), run_4no _ _ _ _ _ _ _ (by omega) e2]
                        have := ih (h2 :: s) (by simp at hs2 ⊢; omega) 34 h1 r (w ++ [120, h1]) (i + 3)
                        rw [← this]
                        simp [unesc]
              · rw [aq_esc _ _ _ _ (by match s with | [] => rfl | [_] => rfl | _ :: _ :: _ => simp [hexAhead, hd]), run_2 _ _ _ _ _ _ (by decide) hd, List.append_assoc]
                exact ih s hs2 34 f r (w ++ [unesc d]) (i + 2)
          · rw [if_neg (by rintro ⟨a, b | b⟩ <;> simp_all), aq_plain _ _ _ _ _ hq (by rintro ⟨a, b, _⟩; exact h39 ⟨a, b⟩) (by rintro ⟨a, b, _⟩; exact h34 ⟨a, b⟩), List.append_assoc]
            exact ih s hs' q f r (w ++ [c]) (i + 1)

/-- THE PLAIN LAW: appendWord answers as the model does from state 0 on. -/
theorem aw_run : ∀ (s : List Int) (q f : Int) (r w : List Int) (i : Nat), aw s (r ++ w) i = (run s 0 q f w i).map (fun p => (r ++ p.1, p.2)) := by
  intro s
  induction s with
  | nil => intro q f r w i; simp [aw, run]
  | cons c s ih =>
    intro q f r w i
    rw [aw, run_0]
    by_cases h1 : ends c = true
    · rw [if_pos h1, if_pos h1]; rfl
    · rw [if_neg h1, if_neg h1]
      by_cases h2 : c = 34 ∨ c = 39
      · rw [if_pos h2, if_pos h2]
        exact aq_run s.length s (Nat.le_refl _) c f r w (i + 1)
      · rw [if_neg h2, if_neg h2, List.append_assoc]
        exact ih q f r (w ++ [c]) (i + 1)
end Go.Proofs.Qxb6600352a.Plain
