/-
  The law on changedVariables: what its loops carry.
-/
import Derived.Test.Qxb6600432aSeen
namespace Go.Proofs.Qxb6600432a.Law6
open Go.RowKit Go.Maps
open Go.Proofs.Qxb6600432a.Mem Go.Proofs.Qxb6600432a.Top Go.Proofs.Qxb6600432a.Str Go.Proofs.Qxb6600432a.Maps Go.Proofs.Qxb6600432a.Sort Go.Proofs.Qxb6600432a.Chg
set_option linter.unusedVariables false
set_option linter.unusedSimpArgs false

theorem own_form {w : World} {base : Nat} {v : Value} {l : List (List UInt8)} (h : OwnS w base v l) : ∃ ao cap, v = .slice ao l.length cap ∧ RdS w ao l := by
  rcases h.2 with ⟨rfl, h0⟩ | ⟨g, cap, cur, rfl, rest⟩
  · refine ⟨none, 0, by rw [h0], fun j hj => by omega⟩
  · refine ⟨some ⟨g, 0, none⟩, cap, rfl, fun j hj => ⟨g, 0, rfl, ?_⟩⟩
    rw [Nat.zero_add]
    exact OwnS.cell rfl h j hj

/-- us: the names of L, each once. -/
def Part (L us : List (List UInt8)) : Prop := us.Nodup ∧ (∀ x, x ∈ us ↔ x ∈ L) ∧ us.length ≤ L.length
theorem Part.start : Part [] [] := ⟨List.nodup_nil, fun x => Iff.rfl, Nat.le_refl _⟩
theorem Part.old {L us : List (List UInt8)} (h : Part L us) {x : List UInt8} (hx : x ∈ us) : Part (L ++ [x]) us := by
  refine ⟨h.1, fun y => ?_, by have := h.2.2; simp; omega⟩
  rw [List.mem_append, h.2.1 y, List.mem_singleton]
  constructor
  · exact .inl
  · rintro (h1 | rfl)
    · exact h1
    · exact (h.2.1 _).1 hx
theorem Part.new {L us : List (List UInt8)} (h : Part L us) {x : List UInt8} (hx : x ∉ us) : Part (L ++ [x]) (us ++ [x]) := by
  refine ⟨?_, fun y => ?_, by have := h.2.2; simp; omega⟩
  · refine List.nodup_append.2 ⟨h.1, by simp, ?_⟩
    intro a ha b hb e
    rw [List.mem_singleton] at hb
    subst hb
    subst e
    exact hx ha
  · rw [List.mem_append, List.mem_append, h.2.1 y]
theorem take_step (l : List (List UInt8)) (k : Nat) (h : k < l.length) : l.take (k + 1) = l.take k ++ [l.getD k []] := by
  rw [List.take_succ_eq_append_getElem h]
  simp [h]

/-- What stands while the set in block B is filled. -/
def Stand (w : World) (a0 a2 : Option Addr) (s0 s2 : List (List UInt8)) (mr mv : Value) (Dr Dv : DataW Unit) (B : Nat) (wr : World) : Prop :=
  RdS wr a0 s0 ∧ RdS wr a2 s2 ∧ MapAt wr mr Dr ∧ MapAt wr mv Dv ∧ w.grownBy wr none ∧ (∀ b, mr = .map (some b) → b < B) ∧ (∀ b, mv = .map (some b) → b < B) ∧ w.heap.size ≤ B
theorem Stand.see {w : World} {a0 a2 : Option Addr} {s0 s2 : List (List UInt8)} {mr mv : Value} {Dr Dv : DataW Unit} {B : Nat} {wr w' : World} (h : Stand w a0 a2 s0 s2 mr mv Dr Dv B wr) {n : Nat} {us : List (List UInt8)} (hs : SeenAt wr B n us) (g : wr.grownBy w' (some B)) :
    Stand w a0 a2 s0 s2 mr mv Dr Dv B w' := by
  obtain ⟨h0, h2, hr, hv, hg, br, bv, hB⟩ := h
  refine ⟨RdS.seen h0 hs g, RdS.seen h2 hs g, hr.kept g (fun b e h => ?_), hv.kept g (fun b e h => ?_), hg.andThen g (fun j hj => by cases hj; exact .inl hB), br, bv, hB⟩
  · have := br b e
    have := Option.some.inj h
    omega
  · have := bv b e
    have := Option.some.inj h
    omega

theorem less_iff (x y : List UInt8) : Op.bytesLess x y = decide (x < y) := by
  induction x generalizing y with
  | nil => cases y <;> simp [Op.bytesLess]
  | cons a x ih =>
    cases y with
    | nil => simp [Op.bytesLess]
    | cons b y =>
      unfold Op.bytesLess
      rw [ih, Bool.eq_iff_iff]
      simp [List.cons_lt_cons_iff]
theorem pair_less {ts : List (List UInt8)} (h : ts.Pairwise (fun a b => a < b)) (k : Nat) (hk : k + 1 < ts.length) : Op.bytesLess (str (ts.getD k [])).toList (str (ts.getD (k + 1) [])).toList = true := by
  rw [ByteArray.toList_eq, ByteArray.toList_eq, str_list, str_list, less_iff]
  have := List.pairwise_iff_getElem.1 h k (k + 1) (by omega) hk (by omega)
  have e1 : ts.getD k [] = ts[k] := by simp [show k < ts.length by omega]
  have e2 : ts.getD (k + 1) [] = ts[k + 1] := by simp [hk]
  rw [e1, e2]
  simpa using this
theorem pair_nodup {ts : List (List UInt8)} (h : ts.Pairwise (fun a b => a < b)) : ts.Nodup := by
  refine h.imp ?_
  intro a b hab e
  subst e
  exact List.lt_irrefl a hab

/-- The names of the two maps lie among the keys. -/
theorem chg_keys {k0 v0 k2 v2 : List (List UInt8)} {x : List UInt8} (h : chg (fillD k0 v0 k0.length) (fillD k2 v2 k2.length) x = true) : x ∈ k0 ++ k2 := by
  rw [List.mem_append]
  rcases chg_has h with h | h
  · exact .inl (fillD_has _ _ _ (Nat.le_refl _) x h)
  · exact .inr (fillD_has _ _ _ (Nat.le_refl _) x h)

theorem count_eq {cg : List UInt8 → Bool} {L us ts : List (List UInt8)} (hp : Part L us) (hn : ts.Nodup) (ht : ∀ x, x ∈ ts ↔ cg x = true) (hL : ∀ x, cg x = true → x ∈ L) : (us.filter cg).length = ts.length := by
  refine nodup_eq_len (hp.1.filter _) hn fun x => ?_
  rw [List.mem_filter, hp.2.1 x, ht x]
  exact ⟨fun h => h.2, fun h => ⟨hL x h, h⟩⟩
end Go.Proofs.Qxb6600432a.Law6
