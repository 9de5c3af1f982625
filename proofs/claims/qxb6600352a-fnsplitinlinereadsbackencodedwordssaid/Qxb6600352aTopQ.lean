/-
  The law FnAppendQuotedMatchesModel, walked.
-/
import Derived.Test.Qxb6600352aWord
import Derived.Test.Qxb6600352aRun
import Derived.OpenShut
import Derived.Test.Qxb6600352aFacts
namespace Go.Proofs.Qxb6600352a.Top
open Go.RowKit
open Go.Proofs.Qxb6600352a.Plain Go.Proofs.Qxb6600352a.Mem Go.Proofs.Qxb6600352a.Base Go.Proofs.Qxb6600352a.Leaf Go.Proofs.Qxb6600352a.Quoted Go.Proofs.Qxb6600352a.Word
set_option linter.unusedVariables false
set_option linter.unusedSimpArgs false

/-- What the walk is told of a slice of integers that came in. -/
def IsRow (k : IntKind) (w : World) (a : Option Addr) (len cap : Nat) (zs : List Int) : Prop :=
  (a = none ∧ len = 0 ∧ cap = 0 ∧ zs = []) ∨
  ∃ x, a = some x ∧ len ≤ cap ∧ cap ≤ maxLen ∧ zs.length = cap ∧ (∀ i, i < zs.length → w.cell? (x.add i) = some (.int k (zs.getD i 0))) ∧ ∀ n ∈ zs, (Lit.int k n).wf = true

theorem IsRow.rd {w : World} {a : Option Addr} {len cap : Nat} {zs : List Int} (h : IsRow .u8 w a len cap zs) : ∃ l : List Int, l.length = len ∧ Rd w a l ∧ (a = none → cap = 0) ∧ len ≤ maxLen ∧ ∀ n ∈ l, 0 ≤ n ∧ n ≤ 255 := by
  rcases h with ⟨rfl, rfl, rfl, rfl⟩ | ⟨x, rfl, hl, hm, hz, hcell, hwf⟩
  · exact ⟨[], rfl, fun j hj => by simp at hj, fun _ => rfl, Nat.zero_le _, by simp⟩
  · refine ⟨zs.take len, by simp; omega, ?_, fun h => by simp at h, by omega, ?_⟩
    · intro j hj
      have hj2 : j < len := by simp at hj; omega
      have hc := hcell j (by omega)
      obtain ⟨b, off, sp⟩ := x
      have hsp : sp = none := by simpa [Addr.add] using World.cell?_spot (hcell 0 (by omega))
      subst hsp
      refine ⟨b, off, rfl, ?_⟩
      rw [Addr.add_lit] at hc
      rw [hc]
      simp [List.getD, List.getElem?_take, hj2]
    · intro n hn
      have := hwf n (List.mem_of_mem_take hn)
      exact bounds_u8 this

theorem below_of_grown {w w' : World} (h : w.grownBy w' none) : Below w.heap.size w w' := ⟨h.os, h.tape, h.output, h.size, fun k hk => h.block k hk (by simp)⟩

theorem bytesQ_yes (a0 a1 : Option Addr) (n0 c0 n1 c1 : Nat) (i q : Int) (w : World) (h : n0 + n1 ≤ 1048576) :
    Calls Try.prog 25 #[.slice a0 n0 c0, .slice a1 n1 c1, .int .i64 i, .int .u8 q] w fun e w' => e = .returned (.bool true) ∧ w' = w := by
  go_enter Try.func25, Try.ntmps25
  go_wp2
  go_ret
  exact ⟨rfl, rfl⟩
theorem bytesQ_no (a0 a1 : Option Addr) (n0 c0 n1 c1 : Nat) (i q : Int) (w : World) (h : 1048576 < n0 + n1) (h0 : n0 ≤ maxLen) (h1 : n1 ≤ maxLen) :
    Calls Try.prog 25 #[.slice a0 n0 c0, .slice a1 n1 c1, .int .i64 i, .int .u8 q] w fun e w' => e = .returned (.bool false) ∧ w' = w := by
  unfold maxLen at h0 h1
  by_cases g0 : 1048576 < n0
  · go_enter Try.func25, Try.ntmps25
    go_wp2
    go_ret
    exact ⟨rfl, rfl⟩
  · by_cases g1 : 1048576 < n1
    · go_enter Try.func25, Try.ntmps25
      go_wp2
      go_ret
      exact ⟨rfl, rfl⟩
    · go_enter Try.func25, Try.ntmps25
      go_wp2
      go_ret
      exact ⟨rfl, rfl⟩

/-- The law's short ways. -/
theorem quoted_top_big (a0 a1 : Option Addr) (n0 c0 n1 c1 : Nat) (i q : Int) (w : World) (h : 1048576 < n0 + n1) (h0 : n0 ≤ maxLen) (h1 : n1 ≤ maxLen) :
    Calls Try.prog 8 #[.slice a0 n0 c0, .slice a1 n1 c1, .int .i64 i, .int .u8 q] w fun e w' => e = .returned (.bool true) ∧ w' = w := by
  go_enter Try.func8, Try.ntmps8
  go_wp2_with (go_at_call 25; refine (bytesQ_no _ _ _ _ _ _ _ _ _ h h0 h1).mono ?_; rintro e w' ⟨rfl, hw⟩; obtain rfl := hw.symm)
  go_ret
  exact ⟨rfl, rfl⟩
theorem quoted_top_neg (a0 a1 : Option Addr) (n0 c0 n1 c1 : Nat) (i q : Int) (w : World) (h : n0 + n1 ≤ 1048576) (hi : i < 0) :
    Calls Try.prog 8 #[.slice a0 n0 c0, .slice a1 n1 c1, .int .i64 i, .int .u8 q] w fun e w' => e = .returned (.bool true) ∧ w' = w := by
  go_enter Try.func8, Try.ntmps8
  go_wp2_with (go_at_call 25; refine (bytesQ_yes _ _ _ _ _ _ _ _ _ h).mono ?_; rintro e w' ⟨rfl, hw⟩; obtain rfl := hw.symm)
  go_ret
  exact ⟨rfl, rfl⟩

/-- The line that the law has cloned: where it lies. -/
theorem line_form {w : World} {base : Nat} {v : Value} {l : List Int} (h : Own w base v l) :
    ∃ la lb cap, v = .slice la l.length cap ∧ (l ≠ [] → lb < w.heap.size) ∧ (l ≠ [] → la = some ⟨lb, 0, none⟩) ∧ (l ≠ [] → v.ownBlock = some lb) ∧ ∀ j, j < l.length → w.cell? ⟨lb, j, none⟩ = some (.int .u8 (l.getD j 0)) := by
  rcases h.form with ⟨rfl, rfl⟩ | ⟨g, cap, rfl, hb, hlt, hnc, hcm⟩
  · exact ⟨none, 0, 0, rfl, fun h => absurd rfl h, fun h => absurd rfl h, fun h => absurd rfl h, fun j hj => by simp at hj⟩
  · exact ⟨_, g, cap, rfl, fun _ => hlt, fun _ => rfl, fun _ => rfl, fun j hj => h.cell j hj⟩

theorem slice_form {w : World} {base : Nat} {v : Value} {l : List Int} (h : Own w base v l) : ∃ a c, v = .slice a l.length c := by
  rcases h.form with ⟨rfl, rfl⟩ | ⟨g, cap, rfl, _⟩
  · exact ⟨_, _, rfl⟩
  · exact ⟨_, _, rfl⟩

set_option maxHeartbeats 1000000 in
set_option maxRecDepth 100000 in
theorem quoted_top (a0 a1 : Option Addr) (n0 c0 n1 c1 : Nat) (l0 l1 : List Int) (i : Nat) (q : Int) (w : World) (e0 : l0.length = n0) (e1 : l1.length = n1) (h0 : Rd w a0 l0) (h1 : Rd w a1 l1) (z0 : a0 = none → c0 = 0) (z1 : a1 = none → c1 = 0) (h : n0 + n1 ≤ 1048576) :
    Calls Try.prog 8 #[.slice a0 n0 c0, .slice a1 n1 c1, .int .i64 i, .int .u8 q] w fun e w' => e = .returned (.bool true) ∧ Below w.heap.size w w' := by
  subst e0; subst e1
  have Z0 : Hid (a0 = none → c0 = 0) := z0
  have Z1 : Hid (a1 = none → c1 = 0) := z1
  clear z0 z1
  have heq := fun (w : World) (a : Option Addr) (n c n2 c2 : Nat) => Lib.run_eql_slice_nil (P := Try.prog) w _ _ a n c n2 c2 Try.underlying22
  go_enter Try.func8, Try.ntmps8
  go_wp2_with (go_at_call 25; refine (bytesQ_yes _ _ _ _ _ _ _ _ _ h).mono ?_; rintro e w' ⟨rfl, hw⟩; obtain rfl := hw.symm)
  refine (clone_any a0 c0 l0 w h0 Z0.out (by omega)).mono ?_
  rintro e w1 ⟨rv, rfl, ho1, hg1⟩
  have hb1 : Hid (Below w.heap.size w w1) := below_of_grown hg1
  have h1' : Rd w1 a1 l1 := by
    intro j hj
    obtain ⟨b, off, e, hc⟩ := h1 j hj
    exact ⟨b, off, e, hg1.cell hc (by simp)⟩
  have hs1 : w.heap.size ≤ w1.heap.size := hg1.size
  have ho1' := ho1.lt
  have HO1 : Hid (Own w1 w.heap.size rv l0) := ho1
  obtain ⟨a2, c2, hrv⟩ := slice_form ho1
  have HRV : Hid (rv = .slice a2 l0.length c2) := hrv
  clear hrv ho1 hg1 h0 h1
  go_wp2_with fail
  refine (clone_any a1 c1 l1 w1 h1' Z1.out (by omega)).mono ?_
  rintro e w2 ⟨lv, rfl, ho2, hg2⟩
  have ho2l := ho2.lt
  have hs2 : w1.heap.size ≤ w2.heap.size := hg2.size
  have HR2 : Hid (Own w2 w.heap.size rv l0) := World.ownsRow.kept HO1.out hg2 (by cases hh : rv.ownBlock <;> simp)
  have hb2 : Hid (Below w.heap.size w w2) := hb1.out.trans ((below_of_grown hg2).mono hs1)
  obtain ⟨la, lb, cap, rfl, hlt, hla, hown, hcell⟩ := line_form ho2
  have HN : Hid (l1 ≠ [] → rv.ownBlock ≠ some lb) := by
    intro hnn e
    have := ho2l lb (hown hnn)
    have := ho1' lb e
    omega
  have HLT : Hid (l1 ≠ [] → lb < w2.heap.size) := hlt
  have HLA : Hid (l1 ≠ [] → la = some ⟨lb, 0, none⟩) := hla
  have HC : Hid (∀ j, j < l1.length → w2.cell? ⟨lb, j, none⟩ = some (.int .u8 (l1.getD j 0))) := hcell
  have HO2L : Hid (l1 ≠ [] → w.heap.size ≤ lb) := by
    intro hnn
    have := ho2l lb (hown hnn)
    omega
  clear hlt hla hcell hg2 ho2 hown ho2l HO1 h1' hb1
  have HP := aq_run (l1.drop i).length (l1.drop i) (Nat.le_refl _) q 0 l0 [] i
  rw [List.append_nil] at HP
  cases hR : run (l1.drop i) 1 q 0 [] i with
  | none =>
    rw [hR] at HP
    have H1 : Hid (aq q (l1.drop i) l0 i = none) := HP
    have H2 : Hid (run (l1.drop i) 1 q 0 [] i = none) := hR
    clear HP hR
    go_wp2_with fail
    refine (zzQuoted_any w.heap.size rv l0 la lb l1.length cap l1 i q w2 rfl HR2.out (by omega) HLT.out HN.out HLA.out HC.out (by omega)).mono ?_
    intro e w3 hp
    rw [H1.out] at hp
    obtain ⟨rfl, gv, hG⟩ := hp
    have HC3 : Hid (∀ j, j < l1.length → w3.cell? ⟨lb, j, none⟩ = some (.int .u8 (l1.getD j 0))) := by
      intro j hj
      have hnn : l1 ≠ [] := by rintro rfl; simp at hj
      exact (hG.cell (a := ⟨lb, j, none⟩) (HLT.out hnn) (HN.out hnn)).trans (HC.out j hj)
    have hs3 : w2.heap.size ≤ w3.heap.size := hG.size
    have hb3 : Hid (Below w.heap.size w w3) := hb2.out.trans (hG.below (by omega) (fun g hg => (ho1' g hg).1))
    clear hG
    go_wp2_with fail
    refine (Run.run_any la lb cap l1 i 1 q w3 (Nat.le_refl _) (fun hnn => by have := HLT.out hnn; omega) HLA.out HC3.out (by omega)).mono ?_
    intro e w4 hp
    rw [H2.out] at hp
    obtain ⟨rfl, tv, hG⟩ := hp
    have hb4 : Hid (Below w.heap.size w w4) := hb3.out.trans (hG.below (by omega) (fun g hg => by cases hg))
    clear hG
    go_wp2
    go_ret
    exact ⟨rfl, hb4.out⟩
  | some p =>
    obtain ⟨t, j⟩ := p
    rw [hR] at HP
    have H1 : Hid (aq q (l1.drop i) l0 i = some (l0 ++ t, j)) := HP
    have H2 : Hid (run (l1.drop i) 1 q 0 [] i = some (t, j)) := hR
    clear HP hR
    go_wp2_with fail
    refine (zzQuoted_any w.heap.size rv l0 la lb l1.length cap l1 i q w2 rfl HR2.out (by omega) HLT.out HN.out HLA.out HC.out (by omega)).mono ?_
    intro e w3 hp
    rw [H1.out] at hp
    obtain ⟨gv, rfl, hgo, hG⟩ := hp
    have HC3 : Hid (∀ j, j < l1.length → w3.cell? ⟨lb, j, none⟩ = some (.int .u8 (l1.getD j 0))) := by
      intro j hj
      have hnn : l1 ≠ [] := by rintro rfl; simp at hj
      exact (hG.cell (a := ⟨lb, j, none⟩) (HLT.out hnn) (HN.out hnn)).trans (HC.out j hj)
    have hs3 : w2.heap.size ≤ w3.heap.size := hG.size
    have hb3 : Hid (Below w.heap.size w w3) := hb2.out.trans (hG.below (by omega) (fun g hg => (ho1' g hg).1))
    have HR3 : Hid (Own w3 w.heap.size rv l0) := HR2.out.kept_self hG
    have HG3 : Hid (Own w3 w.heap.size gv (l0 ++ t)) := hgo
    clear hG hgo
    go_wp2_with fail
    refine (Run.run_any la lb cap l1 i 1 q w3 (Nat.le_refl _) (fun hnn => by have := HLT.out hnn; omega) HLA.out HC3.out (by omega)).mono ?_
    intro e w4 hp
    rw [H2.out] at hp
    obtain ⟨tv, rfl, hto, hG⟩ := hp
    have hb4 : Hid (Below w.heap.size w w4) := hb3.out.trans (hG.below (by omega) (fun g hg => by cases hg))
    have HR4 : Hid (Own w4 w.heap.size rv l0) := HR3.out.kept hG (by cases hh : rv.ownBlock <;> simp [Value.ownBlock])
    have HG4 : Hid (Own w4 w.heap.size gv (l0 ++ t)) := HG3.out.kept hG (by cases hh : gv.ownBlock <;> simp [Value.ownBlock])
    have HT4 : Hid (Own w4 w3.heap.size tv t) := hto
    clear hG hto
    go_wp2_with fail
    have hfit := (aq_fit _ _ (Nat.le_refl _) q l0 i _ _ H1.out).2
    have HB : Hid ((l0 ++ t).length + l0.length + t.length ≤ 1099511627776) := by
      obtain ⟨f1, f2, f3, _⟩ := hfit
      show _ ≤ _
      simp at f2 f3 ⊢
      omega
    clear hfit
    refine (roomThen_any w.heap.size w.heap.size w3.heap.size gv rv tv (l0 ++ t) l0 t w4 HB.out HG4.out HR4.out HT4.out).mono ?_
    rintro e w5 ⟨rfl, nn, rfl⟩
    have hbe : (l0 ++ t == l0 ++ t) = true := by simp
    go_wp2
    go_ret
    exact ⟨rfl, below_drewN hb4.out nn⟩

theorem quoted_law (a0 : Option Addr) (len0 cap0 : Nat) (z0 : List Int) (a1 : Option Addr) (len1 cap1 : Nat) (z1 : List Int) (a2 : Int) (a3 : Int) (w : World) (w0 : IsRow .u8 w a0 len0 cap0 z0) (w1 : IsRow .u8 w a1 len1 cap1 z1) :
    Calls Try.prog 8 #[.slice a0 len0 cap0, .slice a1 len1 cap1, .int .i64 a2, .int .u8 a3] w fun e w' => e = .returned (.bool true) ∧ Below w.heap.size w w' := by
  obtain ⟨l0, e0, r0, n0, m0, _⟩ := w0.rd
  obtain ⟨l1, e1, r1, n1, m1, _⟩ := w1.rd
  by_cases hs : len0 + len1 ≤ 1048576
  · by_cases hi : a2 < 0
    · refine (quoted_top_neg a0 a1 len0 cap0 len1 cap1 a2 a3 w hs hi).mono ?_
      rintro e w' ⟨rfl, rfl⟩
      exact ⟨rfl, Below.refl _ _⟩
    · obtain ⟨i, rfl⟩ := Int.eq_ofNat_of_zero_le (show 0 ≤ a2 by omega)
      exact quoted_top a0 a1 len0 cap0 len1 cap1 l0 l1 i a3 w e0 e1 r0 r1 n0 n1 hs
  · refine (quoted_top_big a0 a1 len0 cap0 len1 cap1 a2 a3 w (by omega) m0 m1).mono ?_
    rintro e w' ⟨rfl, rfl⟩
    exact ⟨rfl, Below.refl _ _⟩
end Go.Proofs.Qxb6600352a.Top
