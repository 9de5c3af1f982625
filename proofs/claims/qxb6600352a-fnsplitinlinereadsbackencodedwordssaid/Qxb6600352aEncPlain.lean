/-
  The encoder, plainly, and the plain law: what it writes is read back.
-/
import Derived.Test.Qxb6600352aSplitPlain
namespace Go.Proofs.Qxb6600352a.Plain
set_option linter.unusedVariables false
set_option linter.unusedSimpArgs false

/-- The digits '0123456789aBcDeF'. -/
def dig (n : Nat) : Int := if n < 10 then 48 + n else if n % 2 = 0 then 87 + n else 55 + n
theorem dig_hx (n : Nat) (h : n < 16) : isHx (dig n) = true ∧ hexV (dig n) = n := by
  have H : ∀ n : Fin 16, isHx (dig n.1) = true ∧ hexV (dig n.1) = n.1 := by decide
  exact H ⟨n, h⟩

def bareable (x : List Int) : Bool := !x.isEmpty && x.all (fun c => !isSp c && !(c == 34) && !(c == 39))
def hexB (b : Int) : List Int := [92, 120, dig (b.toNat / 16), dig (b.toNat % 16)]
def escB (b : Int) : List Int := if b = 34 ∨ b = 92 then [92, b] else [b]
def hexs (x : List Int) : List Int := x.flatMap hexB
def escs (x : List Int) : List Int := x.flatMap escB
def encW (m : Int) (x : List Int) : List Int :=
  if m = 2 ∧ bareable x = true then x else 34 :: ((if m = 1 then hexs x else escs x) ++ [34])

/-- e is read as the word x, whatever follows that begins with a byte which ends a word. -/
def Reads (e x : List Int) : Prop := (∃ c s, e = c :: s ∧ isSp c = false) ∧ ∀ (r : List Int) (i : Nat), (∀ c s, r = c :: s → ends c = true) → aw (e ++ r) [] i = some (x, i + e.length)

theorem aw_bare : ∀ (x r acc : List Int) (i : Nat), (∀ c ∈ x, isSp c = false ∧ ¬ c = 34 ∧ ¬ c = 39) → (∀ c s, r = c :: s → ends c = true) → aw (x ++ r) acc i = some (acc ++ x, i + x.length) := by
  intro x
  induction x with
  | nil =>
    intro r acc i _ hr
    cases r with
    | nil => simp [aw]
    | cons c s => simp [aw, hr c s rfl]
  | cons c x ih =>
    intro r acc i hx hr
    obtain ⟨h1, h2, h3⟩ := hx c (by simp)
    rw [List.cons_append, aw, if_neg (by simp [not_ends c h1]), if_neg (by simp [h2, h3]), ih r (acc ++ [c]) (i + 1) (fun d hd => hx d (by simp [hd])) hr]
    simp
    omega

theorem aq_esc_back : ∀ (x r acc : List Int) (i : Nat), (∀ c s, r = c :: s → ends c = true) → aq 34 (escs x ++ 34 :: r) acc i = some (acc ++ x, i + (escs x).length + 1) := by
  intro x
  induction x with
  | nil =>
    intro r acc i hr
    simp only [escs, List.flatMap_nil, List.nil_append]
    rw [aq_close]
    cases r with
    | nil => simp
    | cons c s => simp [ends_sp c (hr c s rfl)]
  | cons b x ih =>
    intro r acc i hr
    have e1 : escs (b :: x) = escB b ++ escs x := rfl
    rw [e1]
    by_cases hb : b = 34 ∨ b = 92
    · have e2 : escB b = [92, b] := by simp [escB, hb]
      rw [e2]
      simp only [List.cons_append, List.nil_append]
      have hx : hexAhead (b :: (escs x ++ 34 :: r)) = false := by
        match escs x ++ 34 :: r with
        | [] => rfl
        | [_] => rfl
        | h1 :: h2 :: s => simp [hexAhead]; omega
      rw [aq_esc _ _ _ _ hx]
      have hu : unesc b = b := by rcases hb with rfl | rfl <;> rfl
      rw [hu, ih r (acc ++ [b]) (i + 2) hr]
      simp
      omega
    · have e2 : escB b = [b] := by simp [escB, hb]
      rw [e2]
      simp only [List.cons_append, List.nil_append]
      rw [aq_plain _ _ _ _ _ (by omega) (by simp) (by rintro ⟨h, _⟩; omega), ih r (acc ++ [b]) (i + 1) hr]
      simp
      omega

theorem aq_hex_back : ∀ (x r acc : List Int) (i : Nat), (∀ b ∈ x, 0 ≤ b ∧ b ≤ 255) → (∀ c s, r = c :: s → ends c = true) → aq 34 (hexs x ++ 34 :: r) acc i = some (acc ++ x, i + (hexs x).length + 1) := by
  intro x
  induction x with
  | nil =>
    intro r acc i _ hr
    simp only [hexs, List.flatMap_nil, List.nil_append]
    rw [aq_close]
    cases r with
    | nil => simp
    | cons c s => simp [ends_sp c (hr c s rfl)]
  | cons b x ih =>
    intro r acc i hx hr
    have e1 : hexs (b :: x) = hexB b ++ hexs x := rfl
    obtain ⟨b0, b1⟩ := hx b (by simp)
    obtain ⟨d1, v1⟩ := dig_hx (b.toNat / 16) (by omega)
    obtain ⟨d2, v2⟩ := dig_hx (b.toNat % 16) (by omega)
    rw [e1]
    simp only [hexB, List.cons_append, List.nil_append]
    rw [aq_hex _ _ _ _ _ d1 d2, v1, v2]
    have hv : ((b.toNat / 16 : Nat) : Int) * 16 + ((b.toNat % 16 : Nat) : Int) = b := by omega
    rw [hv, ih r (acc ++ [b]) (i + 4) (fun d hd => hx d (by simp [hd])) hr]
    simp
    omega

theorem encW_reads (m : Int) (x : List Int) (hx : ∀ b ∈ x, 0 ≤ b ∧ b ≤ 255) : Reads (encW m x) x := by
  unfold encW
  by_cases h2 : m = 2 ∧ bareable x = true
  · rw [if_pos h2]
    have hb := h2.2
    simp only [bareable, Bool.and_eq_true, Bool.not_eq_true', List.all_eq_true] at hb
    have hall : ∀ c ∈ x, isSp c = false ∧ ¬ c = 34 ∧ ¬ c = 39 := by
      intro c hc
      have := hb.2 c hc
      simp at this
      exact ⟨this.1.1, this.1.2, this.2⟩
    constructor
    · cases x with
      | nil => simp at hb
      | cons c s => exact ⟨c, s, rfl, (hall c (by simp)).1⟩
    · intro r i hr
      simpa using aw_bare x r [] i hall hr
  · rw [if_neg h2]
    constructor
    · exact ⟨34, _, rfl, by decide⟩
    · intro r i hr
      rw [List.cons_append, aw, if_neg (by decide), if_pos (.inl rfl), List.append_assoc]
      by_cases h1 : m = 1
      · rw [if_pos h1]
        have := aq_hex_back x r [] (i + 1) hx hr
        simp only [List.nil_append] at this
        rw [List.singleton_append, this]
        simp
        omega
      · rw [if_neg h1]
        have := aq_esc_back x r [] (i + 1) hr
        simp only [List.nil_append] at this
        rw [List.singleton_append, this]
        simp
        omega

theorem hexs_len (x : List Int) : (hexs x).length = 4 * x.length := by
  induction x with
  | nil => rfl
  | cons b x ih => have e1 : hexs (b :: x) = hexB b ++ hexs x := rfl; rw [e1]; simp [hexB, ih]; omega
theorem escs_len (x : List Int) : (escs x).length ≤ 2 * x.length := by
  induction x with
  | nil => simp [escs]
  | cons b x ih =>
    have e1 : escs (b :: x) = escB b ++ escs x := rfl
    rw [e1]
    have : (escB b).length ≤ 2 := by unfold escB; split <;> simp
    simp; omega
theorem encW_len (m : Int) (x : List Int) : (encW m x).length ≤ 4 * x.length + 2 := by
  unfold encW
  split
  · omega
  · have := hexs_len x
    have := escs_len x
    split <;> simp <;> omega

/-- l holds the words ws, and is ready for the next. -/
def Sofar (ws : List (List Int)) (l : List Int) : Prop :=
  ∀ (r : List Int) (f : Nat), (l ++ r).length < f → ∃ f', (l ++ r).length - l.length < f' ∧ splitF f (l ++ r) 0 [] = splitF f' (l ++ r) l.length ws
/-- l holds the words ws. -/
def Final (ws : List (List Int)) (l : List Int) : Prop := ∀ f, l.length < f → splitF f l 0 [] = some ws

theorem Sofar.start : Sofar [] [] := fun r f hf => ⟨f, by simpa using hf, rfl⟩
theorem Sofar.final {ws : List (List Int)} {l : List Int} (h : Sofar ws l) : Final ws l := by
  intro f hf
  obtain ⟨f', hf', e⟩ := h [] f (by simpa using hf)
  rw [List.append_nil] at e hf'
  obtain ⟨g, rfl⟩ : ∃ g, f' = g + 1 := ⟨f' - 1, by omega⟩
  rw [e, splitF_end g l l.length ws (by omega)]
theorem Sofar.blank {ws : List (List Int)} {l : List Int} (h : Sofar ws l) (c : Int) (hc : isSp c = true) : Sofar ws (l ++ [c]) := by
  intro r f hf
  rw [List.append_assoc] at hf ⊢
  obtain ⟨f', hf', e⟩ := h ([c] ++ r) f hf
  obtain ⟨g, rfl⟩ : ∃ g, f' = g + 1 := ⟨f' - 1, by omega⟩
  have hlt : l.length < (l ++ ([c] ++ r)).length := by simp
  refine ⟨g, by simp at hf' ⊢; omega, ?_⟩
  rw [e, splitF_blank g _ l.length ws hlt (by simp [hc])]
  simp
theorem Sofar.word {ws : List (List Int)} {l e x : List Int} (h : Sofar ws l) (he : Reads e x) (r : List Int) (hr : ∀ c s, r = c :: s → ends c = true) (f : Nat) (hf : (l ++ e ++ r).length < f) :
    ∃ f', (l ++ e ++ r).length - (l ++ e).length < f' ∧ splitF f (l ++ e ++ r) 0 [] = splitF f' (l ++ e ++ r) (l ++ e).length (ws ++ [x]) := by
  obtain ⟨⟨c, s, hes, hc⟩, ha⟩ := he
  have helen : 0 < e.length := by rw [hes]; simp
  rw [List.append_assoc] at hf ⊢
  obtain ⟨f', hf', eq⟩ := h (e ++ r) f hf
  obtain ⟨g, rfl⟩ : ∃ g, f' = g + 1 := ⟨f' - 1, by omega⟩
  refine ⟨g, by simp at hf' ⊢; omega, ?_⟩
  have hlt : l.length < (l ++ (e ++ r)).length := by simp; omega
  rw [eq, splitF_word g _ l.length ws x (l.length + e.length) hlt (by rw [hes]; simp [hc]) (by rw [List.drop_left]; exact ha r l.length hr)]
  simp
theorem Sofar.last {ws : List (List Int)} {l e x : List Int} (h : Sofar ws l) (he : Reads e x) : Final (ws ++ [x]) (l ++ e) := by
  intro f hf
  obtain ⟨f', hf', eq⟩ := h.word he [] (by intro c s h; cases h) f (by simpa using hf)
  rw [List.append_nil] at eq hf'
  obtain ⟨g, rfl⟩ : ∃ g, f' = g + 1 := ⟨f' - 1, by omega⟩
  rw [eq, splitF_end g _ _ _ (by omega)]
theorem Sofar.next {ws : List (List Int)} {l e x : List Int} (h : Sofar ws l) (he : Reads e x) (c : Int) (hc : ends c = true) : Sofar (ws ++ [x]) (l ++ e ++ [c]) := by
  intro r f hf
  rw [List.append_assoc _ [c] r] at hf ⊢
  obtain ⟨f', hf', eq⟩ := h.word he ([c] ++ r) (by intro d s h; cases h; exact hc) f hf
  obtain ⟨g, rfl⟩ : ∃ g, f' = g + 1 := ⟨f' - 1, by omega⟩
  have hlt : (l ++ e).length < (l ++ e ++ ([c] ++ r)).length := by simp
  refine ⟨g, by simp at hf' ⊢; omega, ?_⟩
  rw [eq, splitF_blank g _ _ _ hlt (by simp [ends_sp c hc])]
  simp [Nat.add_assoc]
end Go.Proofs.Qxb6600352a.Plain
