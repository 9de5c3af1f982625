/-
  FnQuotedRefusesUnterminatedStringSaid: the row out of the walk (Qxb6600432aTopB).
-/
import Derived.Test.Qxb6600432aRows
import Derived.WalkKit
import Derived.ProofKit
import Derived.OpenShut
import Derived.ShutString
import Derived.ChangeOld
import Derived.Below
import Derived.Deep.Grids
import Derived.Test.Qxb6600432aTopB
namespace Go.Proofs.Qxb6600432a.fnQuotedRefusesUnterminatedString
open Go.ChangeShapes Go.WideShapes Go.ChangeAt Go.RowKit
open Go.ChangeMaps (open_string shut_string)
set_option linter.unusedVariables false

theorem own : ownKnob Try.prog.godebug = none := by kernel_rfl
theorem laidOut : laidOutB Try.prog = true := by kernel_rfl

open Go.Proofs.Qxb6600432a.Top (IsRow)
open Go.Proofs.Qxb6600432a.Enc (RdB)

/-- What the walk is told of a slice of booleans that came in. -/
def IsBools (w : World) (a : Option Addr) (len cap : Nat) : Prop :=
  (a = none ∧ len = 0 ∧ cap = 0) ∨
  ∃ (x : Addr) (B : Nat → Bool), a = some x ∧ len ≤ cap ∧ cap ≤ maxLen ∧ ∀ i, i < cap → w.cell? (x.add i) = some (.bool (B i))

theorem IsBools.rd {w : World} {a : Option Addr} {len cap : Nat} (h : IsBools w a len cap) : ∃ l : List Bool, l.length = len ∧ RdB w a l ∧ (a = none → cap = 0) ∧ len ≤ maxLen := by
  rcases h with ⟨rfl, rfl, rfl⟩ | ⟨x, B, rfl, hl, hm, hcell⟩
  · exact ⟨[], rfl, fun j hj => by simp at hj, fun _ => rfl, Nat.zero_le _⟩
  · refine ⟨(List.range len).map B, by simp, ?_, (fun h => by cases h), by omega⟩
    intro j hj
    have hj2 : j < len := by simpa using hj
    have hc := hcell j (by omega)
    obtain ⟨b, off, sp⟩ := x
    have hsp : sp = none := by simpa [Addr.add] using World.cell?_spot (hcell 0 (by omega))
    subst hsp
    refine ⟨b, off, rfl, ?_⟩
    rw [Addr.add_lit] at hc
    rw [hc]
    simp [List.getD, hj2]

theorem walk (a0 : Option Addr) (len0 cap0 : Nat) (z0 : List Int) (a1 : Option Addr) (len1 cap1 : Nat) (a2 : Bool) (w : World) (w0 : IsRow .u8 w a0 len0 cap0 z0) (w1 : IsBools w a1 len1 cap1) :
    Calls Try.prog 4 #[.slice a0 len0 cap0, .slice a1 len1 cap1, .bool a2] w fun e w' => e = .returned (.bool true) ∧ Below w.heap.size w w' := by
  obtain ⟨l0, e0, r0, n0, m0, _⟩ := w0.rd
  obtain ⟨l1, e1, r1, n1, m1⟩ := w1.rd
  by_cases hs : len0 ≤ 65536 ∧ len1 ≤ 65536
  · exact Top.refuses_top a0 a1 len0 cap0 len1 cap1 l0 l1 a2 w e0 e1 r0 r1 n0 n1 hs.1 hs.2
  · refine (Top.refuses_big a0 a1 len0 cap0 len1 cap1 a2 w (by omega) m0 m1).mono ?_
    rintro e w' ⟨rfl, rfl⟩
    exact ⟨rfl, Below.refl _ _⟩

/-! ### THE ROW's STEP: WRITTEN OUT: LEAVE IT -/
set_option maxRecDepth 100000 in
theorem lifted (os : Os) (started : os.Started) (H : Type) (enc : TypeId × Value → H) :
    ReturnsInHanded {} Try.checked os 4 .any (Rows.fnQuotedRefusesUnterminatedStringSpec.pre6 enc Try.prog Try.f4 Rows.fnQuotedRefusesUnterminatedStringRow.domain false) (Rows.fnQuotedRefusesUnterminatedStringSpec.post enc Try.prog Try.f4 false true false false) := by
  refine returnsInHanded_of_change (C := Try.checked) own started (by kernel_rfl) Try.func4
    (ChangeSpec.witness6 (enc := enc) (C := Try.checked) false ⟨#[], #[.slice none 0 0, .slice none 0 0, .bool false], []⟩ 8 (by kernel_rfl) (by kernel_rfl) (by kernel_rfl) (by kernel_rfl)) ?_
  intro W base args ds gs before hval0 hW hcnd _
  have hval : ∀ (j : Nat) t v, Try.f4.params[j]? = some t → args[j]? = some v → Value.okWide Try.prog W .any base t v := hval0
  have hW' := hW
  obtain ⟨p, q, hA0, hV, rfl, hfz, hnd⟩ := hW
  have hA : DataW.TrodAll enc Try.prog W 0 (fun _ => true) true Try.f4.params.toList args.toList ds p := hA0
  rw [Try.params4] at hA hval
  obtain ⟨v0, vs0, d0, ds0, p0, q0, hargs, rfl, rfl, h0, r0⟩ := trodAll_cons hA
  obtain ⟨v1, vs1, d1, ds1, p1, q1, rfl, rfl, rfl, h1, r1⟩ := trodAll_cons r0
  obtain ⟨v2, vs2, d2, ds2, p2, q2, rfl, rfl, rfl, h2, r2⟩ := trodAll_cons r1
  obtain ⟨rfl, rfl, rfl⟩ := trodAll_nil r2
  obtain rfl : args = #[v0, v1, v2] := by cases args; simp_all
  obtain ⟨rfl, rfl⟩ := trodVars_none hV
  obtain ⟨a0, len0, cap0, rfl⟩ := okWide_slice Try.underlying22 (hval 0 22 v0 rfl rfl)
  have k0 := h0
  have lt0 : ∀ x ∈ p0, x.block < W.heap.size := by obtain ⟨m, hm⟩ := k0; exact DataW.trod_lt m _ _ _ hm
  obtain ⟨z0, w0⟩ : ∃ zs, IsRow .u8 W a0 len0 cap0 zs := by
    obtain ⟨fuel, hf⟩ := h0
    rcases open_ints Try.underlying22 Try.underlying5 (by kernel_rfl) hf with ⟨hcs, _⟩ | ⟨x, l, c, zs, hcs, _, hl, hm, hz, _, hcell, hwz⟩
    · simp [Value.cells] at hcs
      obtain ⟨rfl, rfl, rfl⟩ := hcs
      exact ⟨[], .inl ⟨rfl, rfl, rfl, rfl⟩⟩
    · simp [Value.cells] at hcs
      obtain ⟨rfl, rfl, rfl⟩ := hcs
      exact ⟨zs, .inr ⟨_, rfl, hl, hm, by simpa using hz, hcell, hwz⟩⟩
  obtain ⟨a1, len1, cap1, rfl⟩ := okWide_slice Try.underlying23 (hval 1 23 v1 rfl rfl)
  have k1 := h1
  have lt1 : ∀ x ∈ p1, x.block < W.heap.size := by obtain ⟨m, hm⟩ := k1; exact DataW.trod_lt m _ _ _ hm
  have w1 : IsBools W a1 len1 cap1 := by
    obtain ⟨fuel, hf⟩ := h1
    rcases Deep.open_bools Try.underlying23 Try.underlying4 (by kernel_rfl) hf with ⟨hcs, _⟩ | ⟨x, l, c, B, hcs, _, hl, hm, _, hcell⟩
    · simp [Value.cells] at hcs
      obtain ⟨rfl, rfl, rfl⟩ := hcs
      exact .inl ⟨rfl, rfl, rfl⟩
    · simp [Value.cells] at hcs
      obtain ⟨rfl, rfl, rfl⟩ := hcs
      exact .inr ⟨_, B, rfl, hl, hm, hcell⟩
  obtain ⟨a2, rfl, rfl, rfl⟩ := open_bool Try.underlying4 (hval 2 4 v2 rfl rfl) h2
  clear hA0 hval0
  refine (walk a0 len0 cap0 z0 a1 len1 cap1 a2 W w0 w1).mono fun e W' ⟨he, bel⟩ => ?_
  subst he
  exact ⟨_, rfl, _, _, _, [], _, [], hW', trodAll_mk1 (shut_bool Try.underlying4 _), (trodAll_cons_mk (Below.trod laidOut (by kernel_rfl) (of_decide_eq_true (by kernel_rfl)) k0 bel lt0) (trodAll_cons_mk (Below.trod laidOut (by kernel_rfl) (of_decide_eq_true (by kernel_rfl)) k1 bel lt1) (trodAll_cons_mk (shut_bool Try.underlying4 _) trodAll_mk0))), rfl, bel.frame _, fun h => by cases h⟩

theorem over : Rows.fnQuotedRefusesUnterminatedStringRow.holds Try.pinned (OpenSpec.ofChange Rows.fnQuotedRefusesUnterminatedStringSpec) :=
  OpenClaim.holds_of_wide 4 Try.f4 rfl rfl rfl rfl rfl rfl rfl ⟨rfl, rfl, rfl, rfl, rfl⟩ rfl rfl rfl rfl rfl (by kernel_rfl) Try.func4 (by kernel_rfl)
    (of_decide_eq_true (by kernel_rfl)) (by unfold Func.isWrapper; first | (rw [if_pos (by decide +kernel)]; kernel_rfl) | (rw [if_neg (by decide +kernel)]; exact ⟨rfl, rfl⟩))
    (fun os started H enc _ => lifted os started H enc)

/-- ████ THE STATEMENT ████ -/
theorem proved : Rows.FnQuotedRefusesUnterminatedStringSaid := over
#print axioms proved
end Go.Proofs.Qxb6600432a.fnQuotedRefusesUnterminatedString
