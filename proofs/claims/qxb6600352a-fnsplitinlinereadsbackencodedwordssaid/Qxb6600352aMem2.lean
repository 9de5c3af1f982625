/-
  Slices of slices of the call's own: 'OwnV'; what an append onto one leaves: 'GrewV'.
-/
import Derived.Test.Qxb6600352aBase2
namespace Go.Proofs.Qxb6600352a.Mem
open Go.RowKit
open Go.Proofs.Qxb6600352a.Base
set_option linter.unusedVariables false
set_option linter.unusedSimpArgs false

theorem info22 : (Try.prog.info? 22).map (fun i => (i.zero, i.size, i.bytes)) = some (some (.slice none 0 0), 1, 24) := by kernel_rfl

def OwnV (w : World) (base : Nat) (v : Value) (xs : List Value) : Prop := w.ownsRow base 22 1 v xs.length xs

structure GrewV (w : World) (v : Value) (w' : World) (v' : Value) : Prop where
  grown : w.grownBy w' v.ownBlock
  lies : v'.ownBlock = v.ownBlock ∨ ∀ g, v'.ownBlock = some g → w.heap.size ≤ g

theorem GrewV.refl (w : World) (v : Value) : GrewV w v w v := ⟨World.grownBy.refl _ _, .inl rfl⟩
theorem GrewV.trans {w w1 w2 : World} {v v1 v2 : Value} (h : GrewV w v w1 v1) (k : GrewV w1 v1 w2 v2) : GrewV w v w2 v2 := by
  refine ⟨⟨k.grown.os.trans h.grown.os, k.grown.tape.trans h.grown.tape, k.grown.output.trans h.grown.output, Nat.le_trans h.grown.size k.grown.size, ?_⟩, ?_⟩
  · intro i hi hne
    have hs := h.grown.size
    rw [k.grown.block i (by omega) ?_, h.grown.block i hi hne]
    rcases h.lies with e | e
    · rw [e]; exact hne
    · intro e2
      have := e i e2.symm
      omega
  · have hs := h.grown.size
    rcases k.lies with e | e
    · rcases h.lies with e' | e'
      · exact .inl (e.trans e')
      · exact .inr fun g hg => e' g (e ▸ hg)
    · exact .inr fun g hg => by have := e g hg; omega
theorem GrewV.alloc (w : World) (v : Value) (o : Obj) : GrewV w v (w.alloc o) v := ⟨World.grownBy_alloc _ _ _, .inl rfl⟩
theorem GrewV.drew (w : World) (v : Value) : GrewV w v w.drew v := ⟨⟨rfl, rfl, rfl, Nat.le_refl _, fun _ _ _ => rfl⟩, .inl rfl⟩
theorem GrewV.size {w w' : World} {v v' : Value} (h : GrewV w v w' v') : w.heap.size ≤ w'.heap.size := h.grown.size
theorem GrewV.cell {w w' : World} {v v' : Value} (h : GrewV w v w' v') {a : Addr} (hlt : a.block < w.heap.size) (hne : v.ownBlock ≠ some a.block) : w'.cell? a = w.cell? a :=
  World.cell?_of_block (h.grown.block a.block hlt (fun e => hne e.symm))
theorem GrewV.below {w w' : World} {v v' : Value} (h : GrewV w v w' v') {B : Nat} (hB : B ≤ w.heap.size) (hv : ∀ g, v.ownBlock = some g → B ≤ g) : Below B w w' :=
  ⟨h.grown.os, h.grown.tape, h.grown.output, h.grown.size, fun k hk => h.grown.block k (by omega) (fun e => by have := hv k e.symm; omega)⟩

theorem OwnV.form {w : World} {base : Nat} {v : Value} {xs : List Value} (h : OwnV w base v xs) :
    (v = .slice none 0 0 ∧ xs = []) ∨ ∃ g cap, v = .slice (some ⟨g, 0, none⟩) xs.length cap ∧ base ≤ g ∧ g < w.heap.size ∧ xs.length ≤ cap ∧ cap ≤ maxLen := by
  rcases h.2 with ⟨rfl, h0⟩ | ⟨g, cap, cur, rfl, hb, hg, hn, hc, _⟩
  · exact .inl ⟨rfl, List.eq_nil_of_length_eq_zero h0⟩
  · exact .inr ⟨g, cap, rfl, hb, (Array.getElem?_eq_some_iff.1 hg).1, hn, hc⟩
theorem OwnV.lt {w : World} {base : Nat} {v : Value} {xs : List Value} (h : OwnV w base v xs) : ∀ k, v.ownBlock = some k → base ≤ k ∧ k < w.heap.size := World.ownsRow.lt h
theorem OwnV.alloc {w : World} {base : Nat} {v : Value} {xs : List Value} (h : OwnV w base v xs) (o : Obj) : OwnV (w.alloc o) base v xs := World.ownsRow.alloc h o
theorem OwnV.drew {w : World} {base : Nat} {v : Value} {xs : List Value} (h : OwnV w base v xs) : OwnV w.drew base v xs := h
theorem OwnV.kept {w w' : World} {base : Nat} {v : Value} {xs : List Value} {row : Option Nat} (h : OwnV w base v xs) (g : w.grownBy w' row) (hne : v.ownBlock = none ∨ v.ownBlock ≠ row) : OwnV w' base v xs :=
  World.ownsRow.kept h g hne
theorem OwnV.nil (w : World) (base : Nat) : OwnV w base (.slice none 0 0) [] := World.ownsRow_nil w base 22 1
theorem OwnV.cell {w : World} {base g n cap : Nat} {xs : List Value} (h : OwnV w base (.slice (some ⟨g, 0, none⟩) n cap) xs) (j : Nat) (hj : j < xs.length) : w.cell? ⟨g, j, none⟩ = xs[j]? := by
  have hn : n = xs.length := by
    rcases h.form with ⟨e, _⟩ | ⟨_, _, e, _⟩
    · cases e
    · cases e; rfl
  subst hn
  exact World.ownsRow.cellAt h j (by simpa using hj)

/-- append of one slice onto a slice of slices of the call's own. -/
theorem run_appV (w : World) (ty : TypeId) (base : Nat) (v : Value) (xs : List Value) (hown : OwnV w base v xs) (ad : Addr) (x : Value) (h1 : x.oneCell' = true)
    (hnew : w.cell? (ad.add 0) = some x) (hlen : xs.length + 1 ≤ 1099511627776) (hbase : base ≤ w.heap.size) :
    ∃ v' w', (Builtin.append_ #[25, 25] ty #[v, .slice (some ad) 1 1]).run Try.prog w = .ok v' w' ∧ OwnV w' base v' (xs ++ [x]) ∧ GrewV w v w' v' := by
  obtain ⟨i, hi, hz0, hz1, hz2⟩ := info_parts info22
  obtain ⟨v', w', hr, ho, hg, hnil, hat⟩ := run_append_own_at (P := Try.prog) w base 25 ty 22 i (.slice none 0 0) 1 24 Try.underlying25 hi hz0 hz1 hz2 rfl (by decide) v xs.length xs hown ad 1 1 [x] rfl
    (by
      intro j u hj
      match j, hj with
      | 0, hj => simp at hj; subst hj; exact hnew
      | j + 1, hj => simp at hj)
    (by intro u hu; simp at hu; subst hu; exact h1) (by unfold maxLen; omega) (by omega) hbase
  refine ⟨v', w', hr, ?_, ⟨hg, ?_⟩⟩
  · unfold OwnV
    rw [List.length_append]
    exact ho
  · rcases hat with h | h
    · exact .inl h
    · exact .inr fun g hgg => by rw [h] at hgg; cases hgg; exact Nat.le_refl _

theorem wpList_appV {w : World} {ops : Array Oper} {rest : List Oper} {o : Oper} {a : Act} {Q : Exit → Act → World → Prop} (hgd : o.guard = none) (s x : Operand)
    (ho : o.op = .call { callee := .builtin .append, args := #[s, x], argTypes := #[25, 25] }) (base : Nat) (v : Value) (xs : List Value) (hs : a.eval s = v) (hown : OwnV w base v xs)
    (ad : Addr) (y : Value) (hx : a.eval x = .slice (some ad) 1 1) (h1 : y.oneCell' = true) (hnew : w.cell? (ad.add 0) = some y) (hlen : xs.length + 1 ≤ 1099511627776) (hbase : base ≤ w.heap.size)
    (h : ∀ v' w', OwnV w' base v' (xs ++ [y]) → GrewV w v w' v' → wpList Try.prog ops Q rest (a.put o.dst v') w') : wpList Try.prog ops Q (o :: rest) a w := by
  refine wpList_plain hgd fun K hK => ?_
  obtain ⟨v', w', hr, h2, h3⟩ := run_appV w o.type base v xs hown ad y h1 hnew hlen hbase
  unfold Oper.wp execOp
  simp only [ho, resolve, invoke, builtin, Sem.run_bind, Sem.run_pure, Result.andThen_ok, List.map_toArray, List.map_cons, List.map_nil, hs, hx, hr]
  exact hK _ _ (h v' w' h2 h3)

theorem step_appV {w : World} {ops : Array Oper} {o : Oper} {a : Act} {K : Act → World → Prop} {Q : Exit → Act → World → Prop} {E : Prop} (hgd : o.guard = none) (s x : Operand)
    (ho : o.op = .call { callee := .builtin .append, args := #[s, x], argTypes := #[25, 25] }) (base : Nat) (v : Value) (xs : List Value) (hs : a.eval s = v) (hown : OwnV w base v xs)
    (ad : Addr) (y : Value) (hx : a.eval x = .slice (some ad) 1 1) (h1 : y.oneCell' = true) (hnew : w.cell? (ad.add 0) = some y) (hlen : xs.length + 1 ≤ 1099511627776) (hbase : base ≤ w.heap.size)
    (h : ∀ v' w', OwnV w' base v' (xs ++ [y]) → GrewV w v w' v' → K (a.put o.dst v') w') :
    if Region.wanted o (yielded ops a.tmps) = true then Oper.wp Try.prog o a w K Q else E := by
  have hw : Region.wanted o (yielded ops a.tmps) = true := by simp [Region.wanted, hgd]
  rw [if_pos hw]
  obtain ⟨v', w', hr, h2, h3⟩ := run_appV w o.type base v xs hown ad y h1 hnew hlen hbase
  unfold Oper.wp execOp
  simp only [ho, resolve, invoke, builtin, Sem.run_bind, Sem.run_pure, Result.andThen_ok, List.map_toArray, List.map_cons, List.map_nil, hs, hx, hr]
  exact h v' w' h2 h3

theorem one_newV (w : World) (y : Value) : (w.alloc (.cells #[y] 22)).cell? ((⟨w.heap.size, 0, none⟩ : Addr).add 0) = some y := by
  simp [Addr.add]

/-- What 'grow' leaves when it makes new room: the cells go over. -/
theorem copy_over (w : World) (v : Value) (xs : List Value) (base m : Nat) (hown : OwnV w base v xs) (hbase : base ≤ w.heap.size) (hm : xs.length ≤ m) (hM : m ≤ 1099511627776) (h1 : ∀ u ∈ xs, u.oneCell' = true) :
    ∃ w1 w2, (Instr.makeSlice 25 (.int .i64 (xs.length : Int)) (.int .i64 (m : Int))).run Try.prog w = .ok (.slice (some ⟨w.heap.size, 0, none⟩) xs.length m) w1 ∧
      (Builtin.copy_ #[25, 25] 3 #[.slice (some ⟨w.heap.size, 0, none⟩) xs.length m, v]).run Try.prog w1 = .ok (goInt xs.length) w2 ∧
      OwnV w2 base (.slice (some ⟨w.heap.size, 0, none⟩) xs.length m) xs ∧ w.grownBy w2 none := by
  obtain ⟨i, hi, hz0, hz1, hz2⟩ := info_parts info22
  have hmk := run_make (P := Try.prog) w 25 22 i (.slice none 0 0) Try.underlying25 hi hz0 .i64 .i64 (xs.length : Int) (m : Int) (by omega) (by omega) (by rw [hz2]; omega) (by omega)
  simp only [Int.toNat_natCast] at hmk
  rw [hz1, Nat.mul_one] at hmk
  have hg := heap_alloc_new w (.cells (madeCells (Value.slice none 0 0).cells m) 22)
  have hsz : (madeCells (Value.slice none 0 0).cells m).size = m := size_madeCells _ _
  generalize madeCells (Value.slice none 0 0).cells m = cur at *
  have hs1 : (Try.prog.info? 22).map (·.size) = some 1 := by rw [hi]; simp [hz1]
  rcases hown.form with ⟨rfl, rfl⟩ | ⟨g, cap, rfl, hb, hlt, hnc, hcm⟩
  · refine ⟨_, _, hmk, run_copy_none (P := Try.prog) _ 25 25 3 22 _ _ _ _ _ _ Try.underlying25 hs1 rfl, ?_, World.grownBy_alloc _ _ _⟩
    exact ⟨rfl, .inr ⟨w.heap.size, m, cur, rfl, hbase, hg, by simp, by unfold maxLen; omega, by omega, by simp⟩⟩
  · have hsrc : ∀ j u, xs[j]? = some u → (w.alloc (.cells cur 22)).cell? ((⟨g, 0, none⟩ : Addr).add j) = some u := by
      intro j u hj
      have hlt2 : j < xs.length := (List.getElem?_eq_some_iff.1 hj).1
      rw [Addr.add_lit, Nat.zero_add, ← hj, ← hown.cell j hlt2]
      exact World.cell?_of_block (Below.heap_alloc w _ g hlt)
    have hcp := run_copy_row (P := Try.prog) (w.alloc (.cells cur 22)) 25 25 3 22 w.heap.size 0 xs.length m ⟨g, 0, none⟩ xs.length cap cur 22 xs Try.underlying25 hs1 hg (by simp) hsrc (by omega) h1
    refine ⟨_, _, hmk, hcp, ?_, ?_⟩
    · refine ⟨by simp, .inr ⟨w.heap.size, m, _, rfl, hbase, setRow_heap _ _ _ _ 22 _ hg, hm, by unfold maxLen; omega, ?_, ?_⟩⟩
      · simp [hsz]; omega
      · simp
    · exact ⟨rfl, rfl, rfl, by simp, fun k hk hne => by rw [setRow_other _ _ _ _ (by omega)]; exact Below.heap_alloc w _ k hk⟩
end Go.Proofs.Qxb6600352a.Mem
