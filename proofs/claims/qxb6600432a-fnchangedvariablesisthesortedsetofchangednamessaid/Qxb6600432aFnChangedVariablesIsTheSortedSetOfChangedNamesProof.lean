/-
  FnChangedVariablesIsTheSortedSetOfChangedNamesSaid: the row out of the walk (Qxb6600432aLaw6).
-/
import Derived.Test.Qxb6600432aRows
import Derived.WalkKit
import Derived.ProofKit
import Derived.OpenShut
import Derived.ShutString
import Derived.SliceStrings
import Derived.ChangeOld
import Derived.Below
import Derived.Test.Qxb6600432aLaw6
namespace Go.Proofs.Qxb6600432a.fnChangedVariablesIsTheSortedSetOfChangedNames
open Go.ChangeShapes Go.WideShapes Go.ChangeAt Go.RowKit
open Go.Proofs.Qxb6600432a.Str Go.Proofs.Qxb6600432a.Law6
set_option linter.unusedVariables false

theorem own : ownKnob Try.prog.godebug = none := by kernel_rfl
theorem laidOut : laidOutB Try.prog = true := by kernel_rfl

/-- What the walk is told of a slice of strings that came in. -/
def IsStrs (w : World) (a : Option Addr) (len cap : Nat) : Prop :=
  (a = none ∧ len = 0 ∧ cap = 0) ∨
  ∃ (x : Addr) (ss : List ByteArray), a = some x ∧ len ≤ cap ∧ cap ≤ maxLen ∧ ss.length = cap ∧ (∀ i, i < ss.length → w.cell? (x.add i) = some (.string (ss.getD i ByteArray.empty))) ∧ (∀ s ∈ ss, s.size ≤ maxLen)

theorem IsStrs.rd {w : World} {a : Option Addr} {len cap : Nat} (h : IsStrs w a len cap) : ∃ l : List (List UInt8), l.length = len ∧ RdS w a l ∧ len ≤ 9223372036854775807 ∧ (∀ x ∈ l, x.length ≤ maxLen) ∧ (a = none → cap = 0) := by
  rcases h with ⟨rfl, rfl, rfl⟩ | ⟨x, ss, rfl, hl, hm, hs, hcell, hsz⟩
  · exact ⟨[], rfl, (fun j hj => by simp at hj), Nat.zero_le _, (fun x hx => by cases hx), fun _ => rfl⟩
  · refine ⟨(ss.take len).map (fun s => s.data.toList), by simp; omega, ?_, Nat.le_trans hl hm, ?_, (fun h => by cases h)⟩
    · intro j hj
      have hj2 : j < len := by simp at hj; omega
      have hc := hcell j (by omega)
      obtain ⟨b, off, sp⟩ := x
      have hsp : sp = none := by simpa [Addr.add] using World.cell?_spot (hcell 0 (by omega))
      subst hsp
      refine ⟨b, off, rfl, ?_⟩
      rw [Addr.add_lit] at hc
      rw [hc]
      have hj3 : j < ss.length := by omega
      have e : ((ss.take len).map (fun s => s.data.toList)).getD j [] = ss[j].data.toList := by simp [List.getD, hj2, hj3]
      have e2 : ss.getD j ByteArray.empty = ss[j] := by simp [List.getD, hj3]
      rw [e, e2]
      congr 1
    · intro y hy
      obtain ⟨s, hs1, rfl⟩ := List.mem_map.1 hy
      have := hsz s (List.mem_of_mem_take hs1)
      exact this

theorem walk (a0 a1 a2 a3 : Option Addr) (n0 c0 n1 c1 n2 c2 n3 c3 : Nat) (w : World) (w0 : IsStrs w a0 n0 c0) (w1 : IsStrs w a1 n1 c1) (w2 : IsStrs w a2 n2 c2) (w3 : IsStrs w a3 n3 c3) :
    Calls Try.prog 6 #[.slice a0 n0 c0, .slice a1 n1 c1, .slice a2 n2 c2, .slice a3 n3 c3] w fun e w' => e = .returned (.bool true) ∧ Below w.heap.size w w' := by
  obtain ⟨s0, e0, r0, m0, l0, z0⟩ := w0.rd
  obtain ⟨s1, e1, r1, m1, l1, z1⟩ := w1.rd
  obtain ⟨s2, e2, r2, m2, l2, z2⟩ := w2.rd
  obtain ⟨s3, e3, r3, m3, l3, z3⟩ := w3.rd
  refine (law_any a0 a1 a2 a3 n0 c0 n1 c1 n2 c2 n3 c3 s0 s1 s2 s3 w e0 r0 m0 l0 z0 e1 r1 m1 l1 z1 e2 r2 m2 l2 z2 e3 r3 m3 l3 z3).mono ?_
  rintro e w' ⟨rfl, hg⟩
  exact ⟨rfl, (Below.refl _ _).grown hg (Nat.le_refl _) (fun j hj => by cases hj)⟩

/-! ### The row's step -/
set_option maxRecDepth 100000 in
theorem lifted (os : Os) (started : os.Started) (H : Type) (enc : TypeId × Value → H) :
    ReturnsInHanded {} Try.checked os 6 .any (Rows.fnChangedVariablesIsTheSortedSetOfChangedNamesSpec.pre6 enc Try.prog Try.f6 Rows.fnChangedVariablesIsTheSortedSetOfChangedNamesRow.domain false) (Rows.fnChangedVariablesIsTheSortedSetOfChangedNamesSpec.post enc Try.prog Try.f6 false true false false) := by
  refine returnsInHanded_of_change (C := Try.checked) own started (by kernel_rfl) Try.func6
    (ChangeSpec.witness6 (enc := enc) (C := Try.checked) false ⟨#[], #[.slice none 0 0, .slice none 0 0, .slice none 0 0, .slice none 0 0], []⟩ 8 (by kernel_rfl) (by kernel_rfl) (by kernel_rfl) (by kernel_rfl)) ?_
  intro W base args ds gs before hval0 hW hcnd _
  have hval : ∀ (j : Nat) t v, Try.f6.params[j]? = some t → args[j]? = some v → Value.okWide Try.prog W .any base t v := hval0
  have hW' := hW
  obtain ⟨p, q, hA0, hV, rfl, hfz, hnd⟩ := hW
  have hA : DataW.TrodAll enc Try.prog W 0 (fun _ => true) true Try.f6.params.toList args.toList ds p := hA0
  rw [Try.params6] at hA hval
  obtain ⟨v0, vs0, d0, ds0, p0, q0, hargs, rfl, rfl, h0, r0⟩ := trodAll_cons hA
  obtain ⟨v1, vs1, d1, ds1, p1, q1, rfl, rfl, rfl, h1, r1⟩ := trodAll_cons r0
  obtain ⟨v2, vs2, d2, ds2, p2, q2, rfl, rfl, rfl, h2, r2⟩ := trodAll_cons r1
  obtain ⟨v3, vs3, d3, ds3, p3, q3, rfl, rfl, rfl, h3, r3⟩ := trodAll_cons r2
  obtain ⟨rfl, rfl, rfl⟩ := trodAll_nil r3
  obtain rfl : args = #[v0, v1, v2, v3] := by cases args; simp_all
  obtain ⟨rfl, rfl⟩ := trodVars_none hV
  obtain ⟨a0, len0, cap0, rfl⟩ := okWide_slice Try.underlying34 (hval 0 34 v0 rfl rfl)
  have k0 := h0
  have lt0 : ∀ x ∈ p0, x.block < W.heap.size := by obtain ⟨m, hm⟩ := k0; exact DataW.trod_lt m _ _ _ hm
  have w0 : IsStrs W a0 len0 cap0 := by
    obtain ⟨fuel, hf⟩ := h0
    rcases open_strings Try.underlying34 Try.underlying9 (by kernel_rfl) hf with ⟨hcs, _⟩ | ⟨x, l, c, ss, hcs, _, hl, hm, hz, _, hcell, hsz⟩
    · simp [Value.cells] at hcs
      obtain ⟨rfl, rfl, rfl⟩ := hcs
      exact .inl ⟨rfl, rfl, rfl⟩
    · simp [Value.cells] at hcs
      obtain ⟨rfl, rfl, rfl⟩ := hcs
      exact .inr ⟨_, ss, rfl, hl, hm, by simpa using hz, hcell, hsz⟩
  obtain ⟨a1, len1, cap1, rfl⟩ := okWide_slice Try.underlying34 (hval 1 34 v1 rfl rfl)
  have k1 := h1
  have lt1 : ∀ x ∈ p1, x.block < W.heap.size := by obtain ⟨m, hm⟩ := k1; exact DataW.trod_lt m _ _ _ hm
  have w1 : IsStrs W a1 len1 cap1 := by
    obtain ⟨fuel, hf⟩ := h1
    rcases open_strings Try.underlying34 Try.underlying9 (by kernel_rfl) hf with ⟨hcs, _⟩ | ⟨x, l, c, ss, hcs, _, hl, hm, hz, _, hcell, hsz⟩
    · simp [Value.cells] at hcs
      obtain ⟨rfl, rfl, rfl⟩ := hcs
      exact .inl ⟨rfl, rfl, rfl⟩
    · simp [Value.cells] at hcs
      obtain ⟨rfl, rfl, rfl⟩ := hcs
      exact .inr ⟨_, ss, rfl, hl, hm, by simpa using hz, hcell, hsz⟩
  obtain ⟨a2, len2, cap2, rfl⟩ := okWide_slice Try.underlying34 (hval 2 34 v2 rfl rfl)
  have k2 := h2
  have lt2 : ∀ x ∈ p2, x.block < W.heap.size := by obtain ⟨m, hm⟩ := k2; exact DataW.trod_lt m _ _ _ hm
  have w2 : IsStrs W a2 len2 cap2 := by
    obtain ⟨fuel, hf⟩ := h2
    rcases open_strings Try.underlying34 Try.underlying9 (by kernel_rfl) hf with ⟨hcs, _⟩ | ⟨x, l, c, ss, hcs, _, hl, hm, hz, _, hcell, hsz⟩
    · simp [Value.cells] at hcs
      obtain ⟨rfl, rfl, rfl⟩ := hcs
      exact .inl ⟨rfl, rfl, rfl⟩
    · simp [Value.cells] at hcs
      obtain ⟨rfl, rfl, rfl⟩ := hcs
      exact .inr ⟨_, ss, rfl, hl, hm, by simpa using hz, hcell, hsz⟩
  obtain ⟨a3, len3, cap3, rfl⟩ := okWide_slice Try.underlying34 (hval 3 34 v3 rfl rfl)
  have k3 := h3
  have lt3 : ∀ x ∈ p3, x.block < W.heap.size := by obtain ⟨m, hm⟩ := k3; exact DataW.trod_lt m _ _ _ hm
  have w3 : IsStrs W a3 len3 cap3 := by
    obtain ⟨fuel, hf⟩ := h3
    rcases open_strings Try.underlying34 Try.underlying9 (by kernel_rfl) hf with ⟨hcs, _⟩ | ⟨x, l, c, ss, hcs, _, hl, hm, hz, _, hcell, hsz⟩
    · simp [Value.cells] at hcs
      obtain ⟨rfl, rfl, rfl⟩ := hcs
      exact .inl ⟨rfl, rfl, rfl⟩
    · simp [Value.cells] at hcs
      obtain ⟨rfl, rfl, rfl⟩ := hcs
      exact .inr ⟨_, ss, rfl, hl, hm, by simpa using hz, hcell, hsz⟩
  clear hA0 hval0
  refine (walk a0 a1 a2 a3 len0 cap0 len1 cap1 len2 cap2 len3 cap3 W w0 w1 w2 w3).mono fun e W' ⟨he, bel⟩ => ?_
  subst he
  exact ⟨_, rfl, _, _, _, [], _, [], hW', trodAll_mk1 (shut_bool Try.underlying4 _), (trodAll_cons_mk (Below.trod laidOut (by kernel_rfl) (of_decide_eq_true (by kernel_rfl)) k0 bel lt0) (trodAll_cons_mk (Below.trod laidOut (by kernel_rfl) (of_decide_eq_true (by kernel_rfl)) k1 bel lt1) (trodAll_cons_mk (Below.trod laidOut (by kernel_rfl) (of_decide_eq_true (by kernel_rfl)) k2 bel lt2) (trodAll_cons_mk (Below.trod laidOut (by kernel_rfl) (of_decide_eq_true (by kernel_rfl)) k3 bel lt3) trodAll_mk0)))), rfl, bel.frame _, fun h => by cases h⟩

theorem over : Rows.fnChangedVariablesIsTheSortedSetOfChangedNamesRow.holds Try.pinned (OpenSpec.ofChange Rows.fnChangedVariablesIsTheSortedSetOfChangedNamesSpec) :=
  OpenClaim.holds_of_wide 6 Try.f6 rfl rfl rfl rfl rfl rfl rfl ⟨rfl, rfl, rfl, rfl, rfl⟩ rfl rfl rfl rfl rfl (by kernel_rfl) Try.func6 (by kernel_rfl)
    (of_decide_eq_true (by kernel_rfl)) (by unfold Func.isWrapper; first | (rw [if_pos (by decide +kernel)]; kernel_rfl) | (rw [if_neg (by decide +kernel)]; exact ⟨rfl, rfl⟩))
    (fun os started H enc _ => lifted os started H enc)

/-- ████ THE STATEMENT ████ -/
theorem proved : Rows.FnChangedVariablesIsTheSortedSetOfChangedNamesSaid := over
#print axioms proved
end Go.Proofs.Qxb6600432a.fnChangedVariablesIsTheSortedSetOfChangedNames
