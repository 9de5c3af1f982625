/-
  The plain law of changedVariables: which names, each once, in rising order.
-/
import Derived.Test.Qxb6600432aRng
namespace Go.Proofs.Qxb6600432a.Chg
open Go.RowKit Go.Maps
open Go.Proofs.Qxb6600432a.Maps
set_option linter.unusedVariables false
set_option linter.unusedSimpArgs false

theorem nodup_le {α : Type} [DecidableEq α] : ∀ {l m : List α}, l.Nodup → (∀ x ∈ l, x ∈ m) → l.length ≤ m.length
  | [], m, _, _ => Nat.zero_le _
  | a :: l, m, hn, hs => by
    have ha : a ∈ m := hs a (by simp)
    have hn2 := List.nodup_cons.1 hn
    have h : l.length ≤ (m.erase a).length := nodup_le hn2.2 fun x hx => (List.mem_erase_of_ne (fun (e : x = a) => hn2.1 (by rw [← e]; exact hx))).2 (hs x (by simp [hx]))
    rw [List.length_erase_of_mem ha] at h
    have : 0 < m.length := List.length_pos_of_mem ha
    simp
    omega

theorem nodup_eq_len {α : Type} [DecidableEq α] {l m : List α} (hl : l.Nodup) (hm : m.Nodup) (h : ∀ x, x ∈ l ↔ x ∈ m) : l.length = m.length :=
  Nat.le_antisymm (nodup_le hl fun x hx => (h x).1 hx) (nodup_le hm fun x hx => (h x).2 hx)

theorem has_mem {D : DataW Unit} (x : List UInt8) (h : hasS D x = true) : x ∈ strKeys D := by
  unfold hasS at h
  cases D
  case map es =>
    rw [has_eq, List.any_eq_true] at h
    obtain ⟨⟨a, b⟩, hab, hs⟩ := h
    cases a <;> simp [Lit.sameKey] at hs
    subst hs
    simp only [strKeys, List.mem_map]
    exact ⟨_, hab, rfl⟩
  all_goals simp [Maps.has] at h
theorem strKeys_len (D : DataW Unit) : (strKeys D).length = Maps.size D := by
  cases D <;> simp [strKeys, Maps.size]

theorem chg_of_not {D1 D2 : DataW Unit} {x : List UInt8} (h : hasS D2 x = false) : chg D1 D2 x = hasS D1 x := by
  unfold chg
  rw [h]
  cases hasS D1 x <;> simp

/-- What the two ranges collected, where the second was run. -/
theorem both_ok {Dr Dv : DataW Unit} {lv lr : Lit → Bool} {vs us : List (List UInt8)} (hv : Collected Dv lv vs) (hu : Collected Dr lr us) (zv : ∀ kl, lv kl = false) (zr : ∀ kl, lr kl = false) :
    (vs.filter (chg Dr Dv) ++ us.filter (fun x => !hasS Dv x)).Nodup ∧ ∀ x, x ∈ vs.filter (chg Dr Dv) ++ us.filter (fun x => !hasS Dv x) ↔ chg Dr Dv x = true := by
  have mv : ∀ x, x ∈ vs ↔ hasS Dv x = true := fun x => by rw [hv.2 x]; unfold hasS; simp [zv]
  have mu : ∀ x, x ∈ us ↔ hasS Dr x = true := fun x => by rw [hu.2 x]; unfold hasS; simp [zr]
  constructor
  · refine List.nodup_append.2 ⟨hv.1.filter _, hu.1.filter _, ?_⟩
    intro a ha b hb e
    subst e
    have h1 := (mv a).1 (List.mem_filter.1 ha).1
    have h2 := (List.mem_filter.1 hb).2
    rw [h1] at h2
    cases h2
  · intro x
    rw [List.mem_append, List.mem_filter, List.mem_filter, mv, mu]
    cases h : hasS Dv x with
    | true => simp
    | false => rw [chg_of_not h]; simp

/-- .. where it was left out: every name of the recording lies among the variables. -/
theorem one_ok {Dr Dv : DataW Unit} {lv : Lit → Bool} {vs : List (List UInt8)} (hv : Collected Dv lv vs) (zv : ∀ kl, lv kl = false) (hk : Maps.size Dr ≤ (vs.filter (hasS Dr)).length) :
    (vs.filter (chg Dr Dv)).Nodup ∧ ∀ x, x ∈ vs.filter (chg Dr Dv) ↔ chg Dr Dv x = true := by
  have mv : ∀ x, x ∈ vs ↔ hasS Dv x = true := fun x => by rw [hv.2 x]; unfold hasS; simp [zv]
  refine ⟨hv.1.filter _, fun x => ?_⟩
  rw [List.mem_filter, mv]
  cases h : hasS Dv x with
  | true => simp
  | false =>
    rw [chg_of_not h]
    cases hr : hasS Dr x with
    | false => simp
    | true =>
      exfalso
      have hn : (x :: vs.filter (hasS Dr)).Nodup := List.nodup_cons.2 ⟨(fun hx => by have := (mv x).1 (List.mem_filter.1 hx).1; rw [h] at this; cases this), hv.1.filter _⟩
      have := nodup_le (m := strKeys Dr) hn (fun y hy => by
        rcases List.mem_cons.1 hy with rfl | hy
        · exact has_mem _ hr
        · exact has_mem _ (List.mem_filter.1 hy).2)
      rw [strKeys_len] at this
      simp at this
      omega

/-- A list with no name twice, sorted: strictly rising, the same names. -/
theorem rising {l : List (List UInt8)} (hn : l.Nodup) : (l.mergeSort fun x y => decide (x ≤ y)).Pairwise (fun a b => a < b) := by
  have tr : ∀ a b c : List UInt8, leB a b = true → leB b c = true → leB a c = true := fun a b c h1 h2 => by simp only [leB, decide_eq_true_eq] at *; exact List.le_trans h1 h2
  have to : ∀ a b : List UInt8, (leB a b || leB b a) = true := fun a b => by simp only [leB, Bool.or_eq_true, decide_eq_true_eq]; exact List.le_total a b
  have h1 := List.pairwise_mergeSort tr to l
  have h2 : (l.mergeSort leB).Nodup := (List.mergeSort_perm l leB).nodup_iff.2 hn
  refine (h1.and h2).imp ?_
  intro a b ⟨hle, hne⟩
  have hle' : a ≤ b := by simpa [leB] using hle
  refine Decidable.byContradiction fun hnl => hne ?_
  exact List.le_antisymm hle' (List.not_lt.1 hnl)
end Go.Proofs.Qxb6600432a.Chg
