/-
  The law FnSplitInlineMatchesModel, walked.
-/
import Derived.Test.Qxb6600352aTopQ
import Derived.Test.Qxb6600352aSplitM
namespace Go.Proofs.Qxb6600352a.Top
open Go.RowKit
open Go.Proofs.Qxb6600352a.Plain Go.Proofs.Qxb6600352a.Mem Go.Proofs.Qxb6600352a.Base Go.Proofs.Qxb6600352a.Leaf Go.Proofs.Qxb6600352a.Quoted Go.Proofs.Qxb6600352a.Word Go.Proofs.Qxb6600352a.Split
set_option linter.unusedVariables false
set_option linter.unusedSimpArgs false

theorem bytesS_yes (a0 : Option Addr) (n0 c0 : Nat) (w : World) (h : n0 ≤ 1048576) :
    Calls Try.prog 10 #[.slice a0 n0 c0] w fun e w' => e = .returned (.bool true) ∧ w' = w := by
  go_enter Try.func10, Try.ntmps10
  go_wp2
  go_ret
  exact ⟨rfl, rfl⟩
theorem bytesS_no (a0 : Option Addr) (n0 c0 : Nat) (w : World) (h : 1048576 < n0) (h0 : n0 ≤ maxLen) :
    Calls Try.prog 10 #[.slice a0 n0 c0] w fun e w' => e = .returned (.bool false) ∧ w' = w := by
  unfold maxLen at h0
  go_enter Try.func10, Try.ntmps10
  go_wp2
  go_ret
  exact ⟨rfl, rfl⟩
theorem split_top_big (a0 : Option Addr) (n0 c0 : Nat) (w : World) (h : 1048576 < n0) (h0 : n0 ≤ maxLen) :
    Calls Try.prog 3 #[.slice a0 n0 c0] w fun e w' => e = .returned (.bool true) ∧ w' = w := by
  go_enter Try.func3, Try.ntmps3
  go_wp2_with (go_at_call 10; refine (bytesS_no _ _ _ _ h h0).mono ?_; rintro e w' ⟨rfl, hw⟩; obtain rfl := hw.symm)
  go_ret
  exact ⟨rfl, rfl⟩

theorem RdW.grown {w w' : World} {ao : Option Addr} {ws : List (List Int)} (h : RdW w ao ws) (g : w.grownBy w' none) : RdW w' ao ws := by
  intro k hk
  obtain ⟨b, off, a, c, e, h1, h2⟩ := h k hk
  refine ⟨b, off, a, c, e, g.cell h1 (by simp), ?_⟩
  intro j hj
  obtain ⟨b2, off2, e2, h3⟩ := h2 j hj
  exact ⟨b2, off2, e2, g.cell h3 (by simp)⟩

theorem quiet_at {P : Program} {f : FuncId} {args : Array Value} {w : World} {nn x : Nat} {v : Value} (h : Calls P f args (w.drewN (nn + x)) fun e w' => e = .returned v ∧ ∃ m, w' = (w.drewN (nn + x)).drewN m) :
    Calls P f args (w.drewN (nn + x)) fun e w'' => e = .returned v ∧ ∃ n, w'' = w.drewN (nn + n) :=
  h.mono fun _ _ ⟨he, m, hm⟩ => ⟨he, x + m, by rw [hm, World.drewN_drewN, Nat.add_assoc]⟩

set_option maxHeartbeats 1000000 in
set_option maxRecDepth 100000 in
theorem split_top (a0 : Option Addr) (n0 c0 : Nat) (l : List Int) (w : World) (e0 : l.length = n0) (h0 : Rd w a0 l) (z0 : a0 = none → c0 = 0) (h : n0 ≤ 1048576) :
    Calls Try.prog 3 #[.slice a0 n0 c0] w fun e w' => e = .returned (.bool true) ∧ Below w.heap.size w w' := by
  subst e0
  have Z0 : Hid (a0 = none → c0 = 0) := z0
  clear z0
  have heq := fun (w : World) (a : Option Addr) (n c n2 c2 : Nat) => Lib.run_eql_slice_nil (P := Try.prog) w _ _ a n c n2 c2 Try.underlying25
  go_enter Try.func3, Try.ntmps3
  go_wp2_with (go_at_call 10; refine (bytesS_yes _ _ _ _ h).mono ?_; rintro e w' ⟨rfl, hw⟩; obtain rfl := hw.symm)
  refine (clone_any a0 c0 l w h0 Z0.out (by omega)).mono ?_
  rintro e w1 ⟨lv, rfl, ho1, hg1⟩
  have hb1 : Hid (Below w.heap.size w w1) := below_of_grown hg1
  have hs1 : w.heap.size ≤ w1.heap.size := hg1.size
  obtain ⟨la, lb, cap, rfl, hlt, hla, hown, hcell⟩ := line_form ho1
  have HLT : Hid (l ≠ [] → lb < w1.heap.size) := hlt
  have HLA : Hid (l ≠ [] → la = some ⟨lb, 0, none⟩) := hla
  have HC : Hid (∀ j, j < l.length → w1.cell? ⟨lb, j, none⟩ = some (.int .u8 (l.getD j 0))) := hcell
  clear hlt hla hcell hg1 ho1 hown h0
  go_wp2_with fail
  refine (zzSplit_any la lb l.length cap l w1 rfl HLT.out HLA.out HC.out (by omega)).mono ?_
  intro e w2 hp
  cases hR : splitF (l.length + 1) l 0 [] with
  | none =>
    have HR : Hid (splitF (l.length + 1) l 0 [] = none) := hR
    rw [hR] at hp
    obtain ⟨hg2, rfl⟩ := hp
    have hb2 : Hid (Below w.heap.size w w2) := hb1.out.trans ((below_of_grown hg2).mono hs1)
    have hs2 : w1.heap.size ≤ w2.heap.size := hg2.size
    have HC2 : Hid (∀ j, j < l.length → w2.cell? ⟨lb, j, none⟩ = some (.int .u8 (l.getD j 0))) := fun j hj => hg2.cell (HC.out j hj) (by simp)
    clear hg2 hR
    go_wp2_with fail
    refine (splitM_any la lb l.length cap l w2 rfl (fun hn => by have := HLT.out hn; omega) HLA.out HC2.out (by omega)).mono ?_
    intro e w3 hp
    rw [HR.out] at hp
    obtain ⟨hg3, rfl⟩ := hp
    have hb3 : Hid (Below w.heap.size w w3) := hb2.out.trans ((below_of_grown hg3).mono (by omega))
    clear hg3
    go_wp2
    go_ret
    exact ⟨rfl, hb3.out⟩
  | some ws =>
    have HR : Hid (splitF (l.length + 1) l 0 [] = some ws) := hR
    rw [hR] at hp
    obtain ⟨hg2, ao, c, rfl, hW⟩ := hp
    have hb2 : Hid (Below w.heap.size w w2) := hb1.out.trans ((below_of_grown hg2).mono hs1)
    have hs2 : w1.heap.size ≤ w2.heap.size := hg2.size
    have HC2 : Hid (∀ j, j < l.length → w2.cell? ⟨lb, j, none⟩ = some (.int .u8 (l.getD j 0))) := fun j hj => hg2.cell (HC.out j hj) (by simp)
    have HW2 : Hid (RdW w2 ao ws) := hW
    clear hg2 hR hW
    go_wp2_with fail
    refine (splitM_any la lb l.length cap l w2 rfl (fun hn => by have := HLT.out hn; omega) HLA.out HC2.out (by omega)).mono ?_
    intro e w3 hp
    rw [HR.out] at hp
    obtain ⟨hg3, ao3, c3, rfl, hW3⟩ := hp
    have hb3 : Hid (Below w.heap.size w w3) := hb2.out.trans ((below_of_grown hg3).mono (by omega))
    have HA : Hid (RdW w3 ao ws) := RdW.grown HW2.out hg3
    have HB : Hid (RdW w3 ao3 ws) := hW3
    clear hg3 hW3
    have hsize := splitF_size _ _ _ _ _ HR.out (by simp)
    have hwn : ws.length ≤ l.length + 1 := by have := hsize.1; simpa using this
    have HWL : Hid (∀ x ∈ ws, x.length ≤ l.length) := hsize.2
    clear hsize
    have hbl : ((ws.length : Int) == (ws.length : Int)) = true := by simp
    go_wp2
    go_loopw [7] (fun iv wr => ∃ k : Nat, k ≤ ws.length ∧ iv = .int .i64 k ∧ ∃ n, wr = w3.drewN n) (fun iv _ => ws.length - (intOf iv).toNat)
    case atStart => exact ⟨0, by omega, rfl, 0, rfl⟩
    case round =>
      obtain ⟨k, hk, rfl, nn, rfl⟩ := hrel
      by_cases hlt : k < ws.length
      · obtain ⟨b, off, a, cc, rfl, g1, g2⟩ := HA.out k hlt
        obtain ⟨b3, off3, a3, cc3, rfl, g3, g4⟩ := HB.out k hlt
        have hyl : (ws.getD k []).length ≤ 1099511627776 := by
          have := HWL.out (ws.getD k []) (by simp [List.getD, hlt])
          omega
        generalize ws.getD k [] = y at *
        have hki : (k : Int) < (ws.length : Int) := by omega
        have hyy : (y == y) = true := by simp
        have HY : Hid (y.length ≤ 1099511627776) := hyl
        have G2 : Hid (Rd w3 a y) := g2
        have G4 : Hid (Rd w3 a3 y) := g4
        clear hyl g2 g4
        go_wp2
        go_quiet ((go_at_call 14; exact quiet_at (same_any a a3 cc cc3 y y _ HY.out (by exact G2.out) (by exact G4.out))))
        go_wp2
        go_roundw
        case rel => exact ⟨k + 1, by omega, by go_num, _, by first | rfl | rw [World.drewN_drewN]⟩
        case measure => simp [intOf]; omega
      · go_wp2
        go_ret
        exact ⟨rfl, below_drewN hb3.out nn⟩

theorem split_law (a0 : Option Addr) (len0 cap0 : Nat) (z0 : List Int) (w : World) (w0 : IsRow .u8 w a0 len0 cap0 z0) :
    Calls Try.prog 3 #[.slice a0 len0 cap0] w fun e w' => e = .returned (.bool true) ∧ Below w.heap.size w w' := by
  obtain ⟨l0, e0, r0, n0, m0, _⟩ := w0.rd
  by_cases hs : len0 ≤ 1048576
  · exact split_top a0 len0 cap0 l0 w e0 r0 n0 hs
  · refine (split_top_big a0 len0 cap0 w (by omega) m0).mono ?_
    rintro e w' ⟨rfl, rfl⟩
    exact ⟨rfl, Below.refl _ _⟩
end Go.Proofs.Qxb6600352a.Top
