/-
  The law's own set 'map[string]bool', and the names of a map that was filled.
-/
import Derived.Test.Qxb6600432aChg27
namespace Go.Proofs.Qxb6600432a.Law6
open Go.RowKit Go.Maps
open Go.Proofs.Qxb6600432a.Mem Go.Proofs.Qxb6600432a.Top Go.Proofs.Qxb6600432a.Str Go.Proofs.Qxb6600432a.Maps Go.Proofs.Qxb6600432a.Sort Go.Proofs.Qxb6600432a.Chg
set_option linter.unusedVariables false
set_option linter.unusedSimpArgs false

noncomputable abbrev PB : Value → Option (DataW Unit × List MemPlace) := plainElem Try.prog 4
theorem zero4 (w : World) : (zeroValue 4).run Try.prog w = .ok (.bool false) w := by kernel_rfl
theorem elem4_inv {v : Value} {z : DataW Unit × List MemPlace} (h : PB v = some z) : ∃ x : Bool, v = .bool x ∧ z = (.lit (.bool x), []) := by
  have hu := Try.underlying4
  unfold PB plainElem at h
  rw [hu] at h
  cases v <;> simp at h
  exact ⟨_, rfl, h.symm⟩

/-- The set in block b holds just the names us. -/
def SeenAt (w : World) (b n : Nat) (us : List (List UInt8)) : Prop :=
  ∃ D : DataW Unit, w.ownsMap Try.prog 9 PB b n D ∧ ∀ x, D.atKey (.string x) (.lit (.bool false)) = .lit (.bool (decide (x ∈ us)))

theorem SeenAt.made (w : World) : SeenAt (w.alloc (.map #[] 0)) w.heap.size 0 [] := ⟨.map [], World.ownsMap_made _ _ _ _, fun x => by simp [DataW.atKey]⟩
theorem SeenAt.kept {w w' : World} {row : Option Nat} {b n : Nat} {us : List (List UInt8)} (h : SeenAt w b n us) (g : w.grownBy w' row) (hne : some b ≠ row) : SeenAt w' b n us := by
  obtain ⟨D, h1, h2⟩ := h
  exact ⟨D, h1.kept g hne, h2⟩
theorem SeenAt.mono {w : World} {b n m : Nat} {us : List (List UInt8)} (h : SeenAt w b n us) (hm : n ≤ m) : SeenAt w b m us := by
  obtain ⟨D, h1, h2⟩ := h
  exact ⟨D, h1.mono hm, h2⟩

section
variable {w : World} {ops : Array Oper} {rest : List Oper} {o : Oper} {a : Act} {Q : Exit → Act → World → Prop}

theorem wpList_seen (hg : o.guard = none) (m x : Operand) (hop : o.op = Op.lookup 42 m x false) (b n : Nat) (us : List (List UInt8)) (hm : a.eval m = .map (some b)) (h : SeenAt w b n us)
    (y : List UInt8) (hx : a.eval x = .string (str y)) (hy : y.length ≤ maxLen) (d : Bool) (hd : decide (y ∈ us) = d)
    (hK : wpList Try.prog ops Q rest (a.put o.dst (.bool d)) w) : wpList Try.prog ops Q (o :: rest) a w := by
  subst hd
  obtain ⟨D, h1, h2⟩ := h
  refine wpList_plain hg fun K' hK' => ?_
  obtain ⟨v, ps, hrun, hv⟩ := h1.lookup law9 Try.underlying42 (zero4 w) (plainElem_bool Try.underlying4 false) (key9 y hy)
  obtain ⟨z, rfl, hz⟩ := elem4_inv hv
  have e := (Prod.mk.inj hz).1
  rw [h2] at e
  have e2 : decide (y ∈ us) = z := by simpa using e
  subst e2
  unfold Oper.wp
  simp only [execOp, hop, hm, hx, Sem.run_bind, hrun, Result.andThen_ok, Sem.run_pure]
  exact hK' _ _ hK

theorem wpList_see (hg : o.guard = none) (m x v : Operand) (hop : o.op = Op.mapUpdate 42 m x v) (b n : Nat) (us : List (List UInt8)) (hm : a.eval m = .map (some b)) (h : SeenAt w b n us) (hn : n < maxLen)
    (y : List UInt8) (hx : a.eval x = .string (str y)) (hy : y.length ≤ maxLen) (hv : a.eval v = .bool true)
    (hK : ∀ w', SeenAt w' b (n + 1) (us ++ [y]) → w.grownBy w' (some b) → wpList Try.prog ops Q rest (a.put o.dst undef) w') : wpList Try.prog ops Q (o :: rest) a w := by
  obtain ⟨D, h1, h2⟩ := h
  refine wpList_mapUpdate_own _ hg m x v 42 hop 9 4 law9 Try.underlying42 PB b n D hm h1 hn _ _ _ hx hv (key9 y hy) _ [] (plainElem_bool Try.underlying4 true) ?_
  intro w' ho hgr
  refine hK w' ⟨_, ho, fun z => ?_⟩ hgr
  by_cases e : z = y
  · subst e
    rw [Maps.atKey_put_same (k := .string z) h1.isMap trivial]
    simp
  · rw [Maps.atKey_put_other (by simpa using e), h2]
    simp [e]
end

/-- What lies in cells stands while the set is written. -/
theorem RdS.seen {w w' : World} {ao : Option Addr} {ss : List (List UInt8)} {B n : Nat} {us : List (List UInt8)} (h : RdS w ao ss) (ho : SeenAt w B n us) (g : w.grownBy w' (some B)) : RdS w' ao ss := by
  obtain ⟨D, ⟨es, clock, hb, _⟩, _⟩ := ho
  intro j hj
  obtain ⟨b, off, e, hc⟩ := h j hj
  refine ⟨b, off, e, g.cell hc ?_⟩
  intro e
  have e' : b = B := by simpa using e
  subst e'
  simp [World.cell?, hb] at hc

/-- A name of the filled map is one of the keys. -/
theorem fillD_has (keys vals : List (List UInt8)) : ∀ n, n ≤ keys.length → ∀ x, hasS (fillD keys vals n) x = true → x ∈ keys
  | 0, _, x, h => by cases h
  | n + 1, hn, x, h => by
    by_cases e : x = keys.getD n []
    · rw [e]
      exact getD_mem _ _ _ (by omega)
    · unfold hasS fillD at h
      rw [Maps.has_put_other (by simpa using e)] at h
      exact fillD_has keys vals n (by omega) x h

theorem chg_has {D1 D2 : DataW Unit} {x : List UInt8} (h : chg D1 D2 x = true) : hasS D1 x = true ∨ hasS D2 x = true := by
  unfold chg at h
  cases h1 : hasS D1 x <;> cases h2 : hasS D2 x <;> simp [h1, h2] at h ⊢
end Go.Proofs.Qxb6600432a.Law6
