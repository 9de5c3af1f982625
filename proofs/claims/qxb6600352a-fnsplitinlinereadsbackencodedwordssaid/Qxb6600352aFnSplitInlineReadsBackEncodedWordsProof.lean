/-
  FnSplitInlineReadsBackEncodedWordsSaid: the row out of the walk (Qxb6600352aTopR).
-/
import Derived.Test.Qxb6600352aRows
import Derived.WalkKit
import Derived.ProofKit
import Derived.OpenShut
import Derived.ShutString
import Derived.ChangeOld
import Derived.Below
import Derived.Deep.Matrix
import Derived.Test.Qxb6600352aTopR
namespace Go.Proofs.Qxb6600352a.fnSplitInlineReadsBackEncodedWords
open Go.ChangeShapes Go.WideShapes Go.ChangeAt Go.RowKit
open Go.ChangeMaps (open_string shut_string)
open Go.Proofs.Qxb6600352a.Top (IsRow)
open Go.Proofs.Qxb6600352a.Split (RdA)
set_option linter.unusedVariables false
set_option linter.unusedSimpArgs false

theorem own : ownKnob Try.prog.godebug = none := by kernel_rfl
theorem laidOut : laidOutB Try.prog = true := by kernel_rfl
theorem cells22 : Try.prog.cellsOf 22 = 1 := by kernel_rfl
theorem cells5 : Try.prog.cellsOf 5 = 1 := by kernel_rfl

/-- What the walk is told of a slice of byte slices that came in. -/
def IsRows (w : World) (a : Option Addr) (len cap : Nat) : Prop :=
  (a = none ∧ len = 0 ∧ cap = 0) ∨
  ∃ (x : Addr) (A : Nat → Option Addr) (L C : Nat → Nat) (Z : Nat → List Int), a = some x ∧ len ≤ cap ∧ cap ≤ maxLen ∧
    ∀ r, r < cap → w.cell? (x.add r) = some (.slice (A r) (L r) (C r)) ∧ L r ≤ C r ∧ C r ≤ maxLen ∧ (Z r).length = C r ∧ (∀ n ∈ Z r, (Lit.int .u8 n).wf = true) ∧ (A r = none → C r = 0) ∧
      ∀ a', A r = some a' → ∀ c, c < C r → w.cell? (a'.add c) = some (.int .u8 ((Z r).getD c 0))

theorem getD_map (len : Nat) (f : Nat → List Int) (k : Nat) (hk : k < len) : ((List.range len).map f).getD k [] = f k := by
  simp [List.getD, hk]

theorem IsRows.rd {w : World} {a : Option Addr} {len cap : Nat} (h : IsRows w a len cap) : ∃ ws : List (List Int), ws.length = len ∧ RdA w a ws ∧ (a = none → cap = 0) ∧ (∀ x ∈ ws, x.length ≤ maxLen) ∧ (∀ x ∈ ws, ∀ b ∈ x, 0 ≤ b ∧ b ≤ 255) ∧ len ≤ maxLen := by
  rcases h with ⟨rfl, rfl, rfl⟩ | ⟨x, A, L, C, Z, rfl, hl, hm, hr⟩
  · exact ⟨[], rfl, fun k hk => by simp at hk, fun _ => rfl, by simp, by simp, Nat.zero_le _⟩
  · refine ⟨(List.range len).map fun r => (Z r).take (L r), by simp, ?_, (fun h => by cases h), ?_, ?_, by omega⟩
    · intro k hk
      have hk2 : k < len := by simpa using hk
      obtain ⟨h1, h2, h3, h4, h5, h6, h7⟩ := hr k (by omega)
      have hlen : ((Z k).take (L k)).length = L k := by simp; omega
      rw [getD_map len (fun r => (Z r).take (L r)) k hk2]
      obtain ⟨b, off, sp⟩ := x
      have hsp : sp = none := by simpa [Addr.add] using World.cell?_spot (hr 0 (by omega)).1
      subst hsp
      refine ⟨b, off, A k, C k, rfl, ?_, ?_, h6⟩
      · rw [hlen]
        rw [Addr.add_lit] at h1
        exact h1
      · intro j hj
        rw [hlen] at hj
        cases hA : A k with
        | none => have := h6 hA; omega
        | some a' =>
          have h8 := h7 a' hA
          obtain ⟨b', off', sp'⟩ := a'
          have hsp' : sp' = none := by simpa [Addr.add] using World.cell?_spot (h8 0 (by omega))
          subst hsp'
          refine ⟨b', off', rfl, ?_⟩
          have h9 := h8 j (by omega)
          rw [Addr.add_lit] at h9
          rw [h9]
          simp [List.getD, List.getElem?_take, hj]
    · intro y hy
      obtain ⟨r, hr2, rfl⟩ := List.mem_map.1 hy
      have hr3 : r < len := by simpa using hr2
      obtain ⟨h1, h2, h3, h4, _⟩ := hr r (by omega)
      simp
      omega
    · intro y hy b hb
      obtain ⟨r, hr2, rfl⟩ := List.mem_map.1 hy
      have hr3 : r < len := by simpa using hr2
      obtain ⟨h1, h2, h3, h4, h5, _⟩ := hr r (by omega)
      exact bounds_u8 (h5 b (List.mem_of_mem_take hb))

theorem walk (a0 : Option Addr) (len0 cap0 : Nat) (a1 : Option Addr) (len1 cap1 : Nat) (z1 : List Int) (a2 : Option Addr) (len2 cap2 : Nat) (z2 : List Int) (w : World) (w0 : IsRows w a0 len0 cap0) (w1 : IsRow .u8 w a1 len1 cap1 z1) (w2 : IsRow .u8 w a2 len2 cap2 z2) :
    Calls Try.prog 4 #[.slice a0 len0 cap0, .slice a1 len1 cap1, .slice a2 len2 cap2] w fun e w' => e = .returned (.bool true) ∧ Below w.heap.size w w' := by
  obtain ⟨ws, hn, hrd, hnil, hwl, hby, h0⟩ := w0.rd
  obtain ⟨l1, e1, r1, z1', m1, _⟩ := w1.rd
  obtain ⟨l2, e2, r2, z2', m2, _⟩ := w2.rd
  exact Top.back_top a0 a1 a2 len0 cap0 len1 cap1 len2 cap2 ws l1 l2 w hn e1 e2 hrd hnil r1 z1' r2 z2' hwl hby h0 m1 m2

/-! ### THE ROW's STEP -/
set_option maxRecDepth 100000 in
theorem lifted (os : Os) (started : os.Started) (H : Type) (enc : TypeId × Value → H) :
    ReturnsInHanded {} Try.checked os 4 .any (Rows.fnSplitInlineReadsBackEncodedWordsSpec.pre6 enc Try.prog Try.f4 Rows.fnSplitInlineReadsBackEncodedWordsRow.domain false) (Rows.fnSplitInlineReadsBackEncodedWordsSpec.post enc Try.prog Try.f4 false true false false) := by
  refine returnsInHanded_of_change (C := Try.checked) own started (by kernel_rfl) Try.func4
    (ChangeSpec.witness6 (enc := enc) (C := Try.checked) false ⟨#[], #[.slice none 0 0, .slice none 0 0, .slice none 0 0], []⟩ 8 (by kernel_rfl) (by kernel_rfl) (by kernel_rfl) (by kernel_rfl)) ?_
  intro W base args ds gs before hval0 hW hcnd _
  have hval : ∀ (j : Nat) t v, Try.f4.params[j]? = some t → args[j]? = some v → Value.okWide Try.prog W .any base t v := hval0
  have hW' := hW
  obtain ⟨p, q, hA0, hV, rfl, hfz, hnd⟩ := hW
  have hA : DataW.TrodAll enc Try.prog W 0 (fun _ => true) true Try.f4.params.toList args.toList ds p := hA0
  rw [Try.params4] at hA hval
  obtain ⟨v0, vs0, d0, ds0, p0, q0, hargs, rfl, rfl, h0, r0⟩ := trodAll_cons hA
  obtain ⟨v1, vs1, d1, ds1, p1, q1, rfl, rfl, rfl, h1, r1⟩ := trodAll_cons r0
  obtain ⟨v2, vs2, d2, ds2, p2, q2, rfl, rfl, rfl, h2, r2⟩ := trodAll_cons r1
  obtain ⟨rfl, rfl, rfl⟩ := trodAll_nil r2
  obtain rfl : args = #[v0, v1, v2] := by cases args; simp_all
  obtain ⟨rfl, rfl⟩ := trodVars_none hV
  obtain ⟨a0, len0, cap0, rfl⟩ := okWide_slice Try.underlying25 (hval 0 25 v0 rfl rfl)
  have k0 := h0
  have lt0 : ∀ x ∈ p0, x.block < W.heap.size := by obtain ⟨m, hm⟩ := k0; exact DataW.trod_lt m _ _ _ hm
  have w0 : IsRows W a0 len0 cap0 := by
    obtain ⟨fuel, hf⟩ := h0
    rcases Deep.open_int_rows Try.underlying25 Try.underlying22 Try.underlying5 cells22 cells5 hf with ⟨hcs, _⟩ | ⟨x, l, c, A, L, C, Z, hcs, _, hl, hm, _, hx⟩
    · simp [Value.cells] at hcs
      obtain ⟨rfl, rfl, rfl⟩ := hcs
      exact .inl ⟨rfl, rfl, rfl⟩
    · simp [Value.cells] at hcs
      obtain ⟨rfl, rfl, rfl⟩ := hcs
      refine .inr ⟨_, A, L, C, Z, rfl, hl, hm, fun r hr => ?_⟩
      obtain ⟨g1, g2, g3, g4, g5, g6, g7⟩ := hx r hr
      exact ⟨g1, g2, g3, g4, g5, g6, fun a' ha => (g7 a' ha).2⟩
  obtain ⟨a1, len1, cap1, rfl⟩ := okWide_slice Try.underlying22 (hval 1 22 v1 rfl rfl)
  have k1 := h1
  have lt1 : ∀ x ∈ p1, x.block < W.heap.size := by obtain ⟨m, hm⟩ := k1; exact DataW.trod_lt m _ _ _ hm
  obtain ⟨z1, w1⟩ : ∃ zs, IsRow .u8 W a1 len1 cap1 zs := by
    obtain ⟨fuel, hf⟩ := h1
    rcases open_ints Try.underlying22 Try.underlying5 (by kernel_rfl) hf with ⟨hcs, _⟩ | ⟨x, l, c, zs, hcs, _, hl, hm, hz, _, hcell, hwz⟩
    · simp [Value.cells] at hcs
      obtain ⟨rfl, rfl, rfl⟩ := hcs
      exact ⟨[], .inl ⟨rfl, rfl, rfl, rfl⟩⟩
    · simp [Value.cells] at hcs
      obtain ⟨rfl, rfl, rfl⟩ := hcs
      exact ⟨zs, .inr ⟨_, rfl, hl, hm, by simpa using hz, hcell, hwz⟩⟩
  obtain ⟨a2, len2, cap2, rfl⟩ := okWide_slice Try.underlying22 (hval 2 22 v2 rfl rfl)
  have k2 := h2
  have lt2 : ∀ x ∈ p2, x.block < W.heap.size := by obtain ⟨m, hm⟩ := k2; exact DataW.trod_lt m _ _ _ hm
  obtain ⟨z2, w2⟩ : ∃ zs, IsRow .u8 W a2 len2 cap2 zs := by
    obtain ⟨fuel, hf⟩ := h2
    rcases open_ints Try.underlying22 Try.underlying5 (by kernel_rfl) hf with ⟨hcs, _⟩ | ⟨x, l, c, zs, hcs, _, hl, hm, hz, _, hcell, hwz⟩
    · simp [Value.cells] at hcs
      obtain ⟨rfl, rfl, rfl⟩ := hcs
      exact ⟨[], .inl ⟨rfl, rfl, rfl, rfl⟩⟩
    · simp [Value.cells] at hcs
      obtain ⟨rfl, rfl, rfl⟩ := hcs
      exact ⟨zs, .inr ⟨_, rfl, hl, hm, by simpa using hz, hcell, hwz⟩⟩
  clear hA0 hval0
  refine (walk a0 len0 cap0 a1 len1 cap1 z1 a2 len2 cap2 z2 W w0 w1 w2).mono fun e W' ⟨he, bel⟩ => ?_
  subst he
  exact ⟨_, rfl, _, _, _, [], _, [], hW', trodAll_mk1 (shut_bool Try.underlying4 _), (trodAll_cons_mk (Below.trod laidOut (by kernel_rfl) (of_decide_eq_true (by kernel_rfl)) k0 bel lt0) (trodAll_cons_mk (Below.trod laidOut (by kernel_rfl) (of_decide_eq_true (by kernel_rfl)) k1 bel lt1) (trodAll_cons_mk (Below.trod laidOut (by kernel_rfl) (of_decide_eq_true (by kernel_rfl)) k2 bel lt2) trodAll_mk0))), rfl, bel.frame _, fun h => by cases h⟩

theorem over : Rows.fnSplitInlineReadsBackEncodedWordsRow.holds Try.pinned (OpenSpec.ofChange Rows.fnSplitInlineReadsBackEncodedWordsSpec) :=
  OpenClaim.holds_of_wide 4 Try.f4 rfl rfl rfl rfl rfl rfl rfl ⟨rfl, rfl, rfl, rfl, rfl⟩ rfl rfl rfl rfl rfl (by kernel_rfl) Try.func4 (by kernel_rfl)
    (of_decide_eq_true (by kernel_rfl)) (by unfold Func.isWrapper; first | (rw [if_pos (by decide +kernel)]; kernel_rfl) | (rw [if_neg (by decide +kernel)]; exact ⟨rfl, rfl⟩))
    (fun os started H enc _ => lifted os started H enc)

theorem proved : Rows.FnSplitInlineReadsBackEncodedWordsSaid := over
#print axioms proved
end Go.Proofs.Qxb6600352a.fnSplitInlineReadsBackEncodedWords
