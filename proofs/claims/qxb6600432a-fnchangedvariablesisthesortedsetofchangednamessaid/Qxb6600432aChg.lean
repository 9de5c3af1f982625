/-
  changedVariables, walked.
-/
import Derived.Test.Qxb6600432aChgPlain
import Derived.Test.Qxb6600432aSort
namespace Go.Proofs.Qxb6600432a.Chg
open Go.RowKit Go.Maps
open Go.Proofs.Qxb6600432a.Mem Go.Proofs.Qxb6600432a.Top Go.Proofs.Qxb6600432a.Str Go.Proofs.Qxb6600432a.Maps Go.Proofs.Qxb6600432a.Sort
set_option linter.unusedVariables false
set_option linter.unusedSimpArgs false

theorem OwnS.nil (w : World) (base : Nat) : OwnS w base (.slice none 0 0) [] := World.ownsRow_nil w base 9 1
theorem OwnS.alloc {w : World} {base : Nat} {v : Value} {l : List (List UInt8)} (h : OwnS w base v l) (o : Obj) : OwnS (w.alloc o) base v l := World.ownsRow.alloc h o

/-- append of one string onto a slice of the call's own. -/
theorem wpList_appS {w : World} {ops : Array Oper} {rest : List Oper} {o : Oper} {a : Act} {Q : Exit → Act → World → Prop} (hgd : o.guard = none) (s x : Operand)
    (ho : o.op = .call { callee := .builtin .append, args := #[s, x], argTypes := #[34, 34] }) (base : Nat) (v : Value) (l : List (List UInt8)) (hs : a.eval s = v) (hown : OwnS w base v l)
    (g : Nat) (y : List UInt8) (hx : a.eval x = .slice (some ⟨g, 0, none⟩) 1 1) (hc : w.cell? ⟨g, 0, none⟩ = some (.string (str y))) (hlen : l.length + 1 ≤ 1099511627776) (hbase : base ≤ w.heap.size)
    (h : ∀ v' w', OwnS w' base v' (l ++ [y]) → w.grownBy w' v.ownBlock → wpList Try.prog ops Q rest (a.put o.dst v') w') : wpList Try.prog ops Q (o :: rest) a w := by
  obtain ⟨i, hi, hz0, hz1, hz2⟩ := info_parts info9
  have hcells : ∀ j u, ([sv y])[j]? = some u → w.cell? ((⟨g, 0, none⟩ : Addr).add j) = some u := by
    intro j u hj
    match j, hj with
    | 0, hj =>
      have e : sv y = u := by simpa using hj
      rw [← e]
      exact hc
    | j + 1, hj => simp at hj
  obtain ⟨v', w', hr, ho', hg, hnil, hat⟩ := run_append_own_at (P := Try.prog) w base 34 o.type 9 i (.string (str [])) 1 16 Try.underlying34 hi hz0 hz1 hz2 rfl (by decide) v l.length (l.map sv) hown ⟨g, 0, none⟩ 1 1 [sv y] rfl hcells
    (by simp [Value.oneCell', sv]) (by unfold maxLen; omega) (by omega) hbase
  refine wpList_plain hgd fun K hK => ?_
  unfold Oper.wp execOp
  simp only [ho, resolve, invoke, builtin, Sem.run_bind, Sem.run_pure, Result.andThen_ok, List.map_toArray, List.map_cons, List.map_nil, hs, hx, hr]
  refine hK _ _ (h v' w' ?_ hg)
  unfold OwnS
  rw [List.map_append, List.length_append]
  exact ho'

theorem RangesAt.iter {w : World} {mv : Value} {r : Nat} {D : DataW Unit} {left : Lit → Bool} {cnt : Nat} (h : RangesAt w mv r D left cnt) : ∃ a b c d, w.heap[r]? = some (.mapIter a b c d) := by
  rcases h with ⟨_, _, ⟨a, b, c, h⟩, _⟩ | ⟨b, n, rfl, ⟨es, clock, since, seen, c0, _, _, _, _, h, _⟩, _⟩
  · exact ⟨_, _, _, _, h⟩
  · exact ⟨_, _, _, _, h⟩
theorem own_ne_iter {w : World} {base : Nat} {v : Value} {l : List (List UInt8)} {mv : Value} {r : Nat} {D : DataW Unit} {left : Lit → Bool} {cnt : Nat} (ho : OwnS w base v l) (h : RangesAt w mv r D left cnt) : some r ≠ v.ownBlock := by
  obtain ⟨a, b, c, d, hb⟩ := RangesAt.iter h
  rcases ho.2 with ⟨rfl, _⟩ | ⟨g, cap, cur, rfl, _, hg, _⟩
  · simp [Value.ownBlock]
  · intro e
    have e' : r = g := by simpa [Value.ownBlock] using e
    subst e'
    rw [hb] at hg
    cases hg
theorem own_ne_low {w : World} {base : Nat} {v : Value} {l : List (List UInt8)} (ho : OwnS w base v l) {b : Nat} (hb : b < base) : some b ≠ v.ownBlock := by
  intro e
  have := (World.ownsRow.lt ho b e.symm).1
  omega
theorem own_kept {w w' : World} {base : Nat} {v : Value} {l : List (List UInt8)} {row : Option Nat} (ho : OwnS w base v l) (g : w.grownBy w' row) (hne : row ≠ v.ownBlock) : OwnS w' base v l :=
  World.ownsRow.kept ho g (.inr (fun e => hne e.symm))

theorem filter_snoc_true {α : Type} (p : α → Bool) (l : List α) (x : α) (h : p x = true) : (l ++ [x]).filter p = l.filter p ++ [x] := by simp [List.filter_append, h]
theorem filter_snoc_false {α : Type} (p : α → Bool) (l : List α) (x : α) (h : p x = false) : (l ++ [x]).filter p = l.filter p := by simp [List.filter_append, h]

theorem cellS_new (w : World) (x : List UInt8) : (w.alloc (.cells #[.string (str x)] 9)).cell? ⟨w.heap.size, 0, none⟩ = some (.string (str x)) := by simp
theorem val_at {D : DataW Unit} {x c : List UInt8} (h : ∀ zd, D.atKey (.string x) zd = .lit (.string c)) : val D x = c ∧ hasS D x = true := by
  refine ⟨?_, Maps.has_true_of_atKey h⟩
  unfold val
  rw [h]
  rfl
theorem chg_at {Dr Dv : DataW Unit} {x c v1 : List UInt8} {b1 : Bool} (h : val Dv x = c ∧ hasS Dv x = true) (e1 : hasS Dr x = b1) (f1 : val Dr x = v1) : chg Dr Dv x = (!b1 || (v1 != c)) := by
  unfold chg
  rw [h.1, h.2, e1, f1]
  cases b1 <;> simp
theorem mapAt_le {w : World} {mv : Value} {D : DataW Unit} (h : MapAt w mv D) {x : List UInt8} (hx : hasS D x = true) : x.length ≤ maxLen := by
  rcases h with ⟨_, rfl⟩ | ⟨b, n, rfl, ho, _⟩
  · cases hx
  · exact strKeys_le ho Try.underlying9 x (has_mem x hx)

end Go.Proofs.Qxb6600432a.Chg
