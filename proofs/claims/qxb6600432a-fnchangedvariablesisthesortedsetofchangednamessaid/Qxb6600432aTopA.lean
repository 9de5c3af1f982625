/-
  The law FnQuotedSplitsInputOrLeavesIt, walked.
-/
import Derived.Test.Qxb6600432aQuoted
import Derived.OpenShut
namespace Go.Proofs.Qxb6600432a.Top
open Go.RowKit
open Go.Proofs.Qxb6600432a.Plain Go.Proofs.Qxb6600432a.Mem Go.Proofs.Qxb6600432a.Base Go.Proofs.Qxb6600432a.Quoted
set_option linter.unusedVariables false
set_option linter.unusedSimpArgs false

/-- What the walk is told of a slice of integers that came in. -/
def IsRow (k : IntKind) (w : World) (a : Option Addr) (len cap : Nat) (zs : List Int) : Prop :=
  (a = none ∧ len = 0 ∧ cap = 0 ∧ zs = []) ∨
  ∃ x, a = some x ∧ len ≤ cap ∧ cap ≤ maxLen ∧ zs.length = cap ∧ (∀ i, i < zs.length → w.cell? (x.add i) = some (.int k (zs.getD i 0))) ∧ ∀ n ∈ zs, (Lit.int k n).wf = true

theorem IsRow.rd {w : World} {a : Option Addr} {len cap : Nat} {zs : List Int} (h : IsRow .u8 w a len cap zs) : ∃ l : List Int, l.length = len ∧ Rd w a l ∧ (a = none → cap = 0) ∧ len ≤ maxLen ∧ ∀ n ∈ l, 0 ≤ n ∧ n ≤ 255 := by
  rcases h with ⟨rfl, rfl, rfl, rfl⟩ | ⟨x, rfl, hl, hm, hz, hcell, hwf⟩
  · exact ⟨[], rfl, fun j hj => by simp at hj, fun _ => rfl, Nat.zero_le _, by simp⟩
  · refine ⟨zs.take len, by simp; omega, ?_, fun h => by simp at h, by omega, ?_⟩
    · intro j hj
      have hj2 : j < len := by simp at hj; omega
      have hc := hcell j (by omega)
      obtain ⟨b, off, sp⟩ := x
      have hsp : sp = none := by simpa [Addr.add] using World.cell?_spot (hcell 0 (by omega))
      subst hsp
      refine ⟨b, off, rfl, ?_⟩
      rw [Addr.add_lit] at hc
      rw [hc]
      simp [List.getD, List.getElem?_take, hj2]
    · intro n hn
      have := hwf n (List.mem_of_mem_take hn)
      exact bounds_u8 this

theorem below_of_grown {w w' : World} (h : w.grownBy w' none) : Below w.heap.size w w' := ⟨h.os, h.tape, h.output, h.size, fun k hk => h.block k hk (by simp)⟩

theorem Rd.grown {w w' : World} {ao : Option Addr} {l : List Int} (h : Rd w ao l) (g : w.grownBy w' none) : Rd w' ao l := by
  intro j hj
  obtain ⟨b, off, e, hc⟩ := h j hj
  exact ⟨b, off, e, g.cell hc (by simp)⟩
theorem grown_trans {w w1 w2 : World} (h : w.grownBy w1 none) (k : w1.grownBy w2 none) : w.grownBy w2 none :=
  ⟨k.os.trans h.os, k.tape.trans h.tape, k.output.trans h.output, Nat.le_trans h.size k.size, fun j hj _ => (k.block j (Nat.lt_of_lt_of_le hj h.size) (by simp)).trans (h.block j hj (by simp))⟩
theorem grown_drewN {w w1 : World} (h : w.grownBy w1 none) (n : Nat) : w.grownBy (w1.drewN n) none := ⟨h.os, h.tape, h.output, h.size, h.block⟩

theorem bytesA_yes (a0 : Option Addr) (n0 c0 : Nat) (f : Bool) (w : World) (h : n0 ≤ 1048576) :
    Calls Try.prog 16 #[.slice a0 n0 c0, .bool f] w fun e w' => e = .returned (.bool true) ∧ w' = w := by
  go_enter Try.func16, Try.ntmps16
  go_wp2
  go_ret
  exact ⟨rfl, rfl⟩
theorem bytesA_no (a0 : Option Addr) (n0 c0 : Nat) (f : Bool) (w : World) (h : 1048576 < n0) (h0 : n0 ≤ maxLen) :
    Calls Try.prog 16 #[.slice a0 n0 c0, .bool f] w fun e w' => e = .returned (.bool false) ∧ w' = w := by
  unfold maxLen at h0
  go_enter Try.func16, Try.ntmps16
  go_wp2
  go_ret
  exact ⟨rfl, rfl⟩
theorem splits_big (a0 : Option Addr) (n0 c0 : Nat) (f : Bool) (w : World) (h : 1048576 < n0) (h0 : n0 ≤ maxLen) :
    Calls Try.prog 5 #[.slice a0 n0 c0, .bool f] w fun e w' => e = .returned (.bool true) ∧ w' = w := by
  go_enter Try.func5, Try.ntmps5
  go_wp2_with (go_at_call 16; refine (bytesA_no _ _ _ _ _ h h0).mono ?_; rintro e w' ⟨rfl, hw⟩; obtain rfl := hw.symm)
  go_ret
  exact ⟨rfl, rfl⟩

/-- A clone: its value's form. -/
theorem clone_form {w : World} {base : Nat} {v : Value} {l : List Int} (h : Own w base v l) : ∃ a c, v = .slice a l.length c ∧ l.length ≤ c ∧ c ≤ maxLen ∧ Rd w a l ∧ (a = none → c = 0) := by
  rcases h.form with ⟨rfl, rfl⟩ | ⟨g, cap, rfl, _, _, h1, h2⟩
  · exact ⟨none, 0, rfl, by simp, by simp, fun j hj => by simp at hj, fun _ => rfl⟩
  · exact ⟨_, cap, rfl, h1, h2, Own.rd h, fun e => by cases e⟩

theorem clone_at (ao : Option Addr) (cap : Nat) (l : List Int) (n : Nat) (w : World) (hn : l.length = n) (hrd : Rd w ao l) (hnil : ao = none → cap = 0) (hlen : l.length ≤ 1099511627776) :
    Calls Try.prog 10 #[.slice ao n cap] w fun e w' => ∃ v, e = .returned v ∧ Own w' w.heap.size v l ∧ w.grownBy w' none := by
  subst hn; exact clone_any ao cap l w hrd hnil hlen
theorem clone_form_n {w : World} {base : Nat} {v : Value} {l : List Int} (h : Own w base v l) (n : Nat) (hn : l.length = n) : ∃ a c, v = .slice a n c ∧ n ≤ c ∧ c ≤ maxLen ∧ Rd w a l ∧ (a = none → c = 0) := by
  subst hn; exact clone_form h
theorem Rd.take {w : World} {ao : Option Addr} {l : List Int} (h : Rd w ao l) (m : Nat) : Rd w ao (l.take m) := by
  intro j hj
  have hj2 : j < m ∧ j < l.length := by simp at hj; omega
  obtain ⟨b, off, e, hc⟩ := h j hj2.2
  refine ⟨b, off, e, ?_⟩
  rw [hc]
  simp [List.getD, List.getElem?_take, hj2.1]
theorem Rd.drop {w : World} {b off : Nat} {l : List Int} (h : Rd w (some ⟨b, off, none⟩) l) (m : Nat) (ao : Option Addr) (hao : m < l.length → ao = some ⟨b, off + m, none⟩) : Rd w ao (l.drop m) := by
  intro j hj
  have hj2 : m + j < l.length := by simp at hj; omega
  obtain ⟨b', off', e, hc⟩ := h (m + j) hj2
  cases e
  refine ⟨b, off + m, hao (by omega), ?_⟩
  rw [Nat.add_assoc, hc]
  simp [List.getD]

set_option maxHeartbeats 1000000 in
set_option maxRecDepth 100000 in
theorem splits_top (a0 : Option Addr) (n0 c0 : Nat) (l : List Int) (f : Bool) (w : World) (e0 : l.length = n0) (h0 : Rd w a0 l) (z0 : a0 = none → c0 = 0) (h : n0 ≤ 1048576) :
    Calls Try.prog 5 #[.slice a0 n0 c0, .bool f] w fun e w' => e = .returned (.bool true) ∧ Below w.heap.size w w' := by
  subst e0
  have Z0 : Hid (a0 = none → c0 = 0) := z0
  clear z0
  have heq := fun (w : World) (a : Option Addr) (n c n2 c2 : Nat) => Lib.run_eql_slice_nil (P := Try.prog) w _ _ a n c n2 c2 Try.underlying22
  go_enter Try.func5, Try.ntmps5
  go_wp2_with (go_at_call 16; refine (bytesA_yes _ _ _ _ _ h).mono ?_; rintro e w' ⟨rfl, hw⟩; obtain rfl := hw.symm)
  refine (clone_any a0 c0 l w h0 Z0.out (by omega)).mono ?_
  rintro e w1 ⟨bv, rfl, ho1, hg1⟩
  obtain ⟨a1, c1, rfl, hc1, hm1, hr1, hn1⟩ := clone_form ho1
  have HG1 : Hid (w.grownBy w1 none) := hg1
  have HR1 : Hid (Rd w1 a1 l) := hr1
  have HN1 : Hid (a1 = none → c1 = 0) := hn1
  have HM1 : Hid (c1 ≤ maxLen) := hm1
  clear hg1 hr1 hn1 hm1 ho1 h0
  go_wp2_with fail
  refine (clone_any a1 c1 l w1 HR1.out HN1.out (by omega)).mono ?_
  rintro e w2 ⟨wv, rfl, ho2, hg2⟩
  obtain ⟨a2, c2, rfl, hc2, hm2, hr2, hn2⟩ := clone_form ho2
  have HG2 : Hid (w.grownBy w2 none) := grown_trans HG1.out hg2
  have HB2 : Hid (Rd w2 a1 l) := Rd.grown HR1.out hg2
  have HW2 : Hid (Rd w2 a2 l) := hr2
  clear hg2 hr2 hn2 ho2 HG1 HR1
  have hq := zzQuoted_any a1 l.length c1 l f w2 rfl HB2.out hc1 HM1.out (by omega)
  have HQ : Hid (Calls Try.prog 13 #[.slice a1 l.length c1, .bool f] w2 (AnsZ w2 a1 c1 l (qz l f))) := hq
  clear hq
  cases hR : qz l f with
  | none =>
    rw [hR] at HQ
    clear hR
    cases f with
    | true =>
      go_wp2_with fail
      refine HQ.out.mono ?_
      rintro e w3 ⟨hg3, rfl⟩
      have HG3 : Hid (w.grownBy w3 none) := grown_trans HG2.out hg3
      have HB3 : Hid (Rd w3 a1 l) := Rd.grown HB2.out hg3
      have HW3 : Hid (Rd w3 a2 l) := Rd.grown HW2.out hg3
      clear hg3 HQ HB2 HW2 HG2
      go_wp2_with fail
      refine (same_any _ _ c1 c2 l l w3 (by omega) HB3.out HW3.out).mono ?_
      rintro e w4 ⟨rfl, n1, rfl⟩
      rw [show (l == l) = true by simp]
      go_wp2
      go_ret
      exact ⟨rfl, below_drewN (below_of_grown HG3.out) n1⟩
    | false =>
      cases l with
      | nil =>
        go_wp2_with fail
        refine HQ.out.mono ?_
        rintro e w3 ⟨hg3, rfl⟩
        have HG3 : Hid (w.grownBy w3 none) := grown_trans HG2.out hg3
        have HB3 : Hid (Rd w3 a1 ([] : List Int)) := Rd.grown HB2.out hg3
        have HW3 : Hid (Rd w3 a2 ([] : List Int)) := Rd.grown HW2.out hg3
        clear hg3 HQ HB2 HW2 HG2
        go_wp2_with fail
        refine (same_any _ _ c1 c2 ([] : List Int) ([] : List Int) w3 (by simp) HB3.out HW3.out).mono ?_
        rintro e w4 ⟨rfl, n1, rfl⟩
        rw [show (([] : List Int) == ([] : List Int)) = true by simp]
        go_wp2
        go_ret
        exact ⟨rfl, below_drewN (below_of_grown HG3.out) n1⟩
      | cons c s =>
        obtain ⟨b2, o2, rfl, g2⟩ := HW2.out 0 (by simp)
        have g2' : w2.cell? ⟨b2, o2, none⟩ = some (.int .u8 c) := g2
        have hlp : 0 < (c :: s).length := by simp
        have hz : (((c :: s).length : Int) == 0) = false := beq_eq_false_iff_ne.2 (by omega)
        have hpos : (0 : Int) < ((c :: s).length : Int) := by omega
        clear g2
        generalize hls : (c :: s) = l at *
        clear hls
        go_wp2_with fail
        refine HQ.out.mono ?_
        rintro e w3 ⟨hg3, rfl⟩
        have HG3 : Hid (w.grownBy w3 none) := grown_trans HG2.out hg3
        have HB3 : Hid (Rd w3 a1 l) := Rd.grown HB2.out hg3
        have HW3 : Hid (Rd w3 (some ⟨b2, o2, none⟩) l) := Rd.grown HW2.out hg3
        clear hg3 HQ HB2 HW2 HG2
        go_wp2_with fail
        refine (same_any _ _ c1 c2 l l w3 (by omega) HB3.out HW3.out).mono ?_
        rintro e w4 ⟨rfl, n1, rfl⟩
        rw [show (l == l) = true by simp]
        go_wp2
        go_ret
        exact ⟨rfl, below_drewN (below_of_grown HG3.out) n1⟩
  | some ip =>
    obtain ⟨i, p⟩ := ip
    rw [hR] at HQ
    obtain ⟨rfl, hi1, hil, hl0, hli, hpl, hcut⟩ := qz_facts hR
    have HPL : Hid (p = true → ∀ k, 1 ≤ k → k < i → prin (l.getD k 0) = true ∧ ¬ l.getD k 0 = 92) := hpl
    have HCUT : Hid (qz (l.take (i + 1)) false = some (i, p)) := hcut
    have HI : Hid (l.getD i 0 = 34) := hli
    have H0 : Hid (l.getD 0 0 = 34) := hl0
    clear hpl hcut hR hli hl0
    have hz : ((l.length : Int) == 0) = false := beq_eq_false_iff_ne.2 (by omega)
    obtain ⟨b2, o2, rfl, g2⟩ := HW2.out 0 (by omega)
    rw [H0.out, Nat.add_zero] at g2
    have hb34 : ((34 : Int) != 34) = false := by decide
    go_wp2_with fail
    refine HQ.out.mono ?_
    rintro e w3 ⟨hg3, hi3, ra, rc, rfl, hrest⟩
    obtain ⟨b1, o1, rfl, g1⟩ := HB2.out 0 (by omega)
    have q0 : w3.cell? ⟨b1, o1, none⟩ = some (.int .u8 34) := by
      have := hg3.cell g1 (by simp)
      rw [H0.out, Nat.add_zero] at this
      exact this
    have qi : w3.cell? ⟨b1, o1 + i, none⟩ = some (.int .u8 34) := by
      obtain ⟨b1', o1', e, g⟩ := HB2.out i (by omega)
      cases e
      have := hg3.cell g (by simp)
      rw [HI.out] at this
      exact this
    have HG3 : Hid (w.grownBy w3 none) := grown_trans HG2.out hg3
    have HB3 : Hid (Rd w3 (some ⟨b1, o1, none⟩) l) := Rd.grown HB2.out hg3
    have HW3 : Hid (Rd w3 (some ⟨b2, o2, none⟩) l) := Rd.grown HW2.out hg3
    have HRS : Hid (Rd w3 ra (l.drop (i + 1))) := hrest
    clear hg3 hrest g1 g2 HQ HB2 HW2 HG2
    generalize hm : i + 1 = m at *
    have hm2 : 2 ≤ m := by omega
    have hml : m ≤ l.length := by omega
    have qm : w3.cell? ⟨b1, o1 + (m - 1), none⟩ = some (.int .u8 34) := by rw [← hm]; exact qi
    have HM : Hid (i + 1 = m) := hm
    clear hm qi
    have hadd : (((m : Int) + ((l.length - m : Nat) : Int)) == (l.length : Int)) = true := beq_iff_eq.2 (by omega)
    go_wp2_with fail
    have HT : Hid ((l.take m).length = m) := by show _ = _; simp; omega
    have HD : Hid ((l.drop m).length = l.length - m) := by show _ = _; simp
    have HTB : Hid ((l.take m).length ≤ 1099511627776) := by show _ ≤ _; rw [HT.out]; omega
    have HDB : Hid ((l.drop m).length ≤ 1099511627776) := by show _ ≤ _; rw [HD.out]; omega
    have ht : (l.take m == l.take m) = true := by simp
    have hd : (l.drop m == l.drop m) = true := by simp
    refine (same_at _ _ c1 c2 (l.take m) (l.take m) m m w3 HTB.out HT.out HT.out (Rd.take HB3.out m) (Rd.take HW3.out m)).mono ?_
    rintro e w4 ⟨rfl, n1, rfl⟩
    rw [ht]
    go_wp2_with fail
    all_goals
      refine (same_at _ _ _ _ (l.drop m) (l.drop m) (l.length - m) (l.length - m) (w3.drewN n1) HDB.out HD.out HD.out (by exact HRS.out) (by exact Rd.drop HW3.out m _ (by intro hlt; first | rfl | (exfalso; omega)))).mono ?_
      rintro e w5 ⟨rfl, n2, hw5⟩
      rw [hd]
      have HG5 : Hid (w.grownBy w5 none) := by rw [hw5]; exact grown_drewN (grown_drewN HG3.out n1) n2
      have HB5 : Hid (Rd w5 (some ⟨b1, o1, none⟩) l) := by rw [hw5]; exact HB3.out
      clear hw5
      cases p with
      | false =>
        go_wp2_with fail
        refine (clone_at _ c1 (l.take m) m w5 HT.out (Rd.take HB5.out m) (fun e => by cases e) HTB.out).mono ?_
        rintro e w6 ⟨qv, rfl, ho6, hg6⟩
        obtain ⟨a6, c6, rfl, hc6, hm6, hr6, hn6⟩ := clone_form_n ho6 m HT.out
        have HG6 : Hid (w.grownBy w6 none) := grown_trans HG5.out hg6
        have HB6 : Hid (Rd w6 (some ⟨b1, o1, none⟩) l) := Rd.grown HB5.out hg6
        have HR6 : Hid (Rd w6 a6 (l.take m)) := hr6
        have HC6 : Hid (m ≤ c6) := hc6
        have HM6 : Hid (c6 ≤ maxLen) := hm6
        clear hg6 hr6 ho6 hn6 hc6 hm6
        go_wp2_with fail
        refine (zzQuoted_any a6 m c6 (l.take m) false w6 HT.out.symm HR6.out (by rw [HT.out]; exact HC6.out) HM6.out (by rw [HT.out]; omega)).mono ?_
        rintro e w7 h7
        rw [HCUT.out] at h7
        obtain ⟨hg7, hi7, ra7, rc7, he7, hrest7⟩ := h7
        rw [HT.out, HM.out, Nat.sub_self] at he7
        subst he7
        have HG7 : Hid (w.grownBy w7 none) := grown_trans HG6.out hg7
        have HB7 : Hid (Rd w7 (some ⟨b1, o1, none⟩) (l.take m)) := Rd.take (Rd.grown HB6.out hg7) m
        have HR7 : Hid (Rd w7 a6 (l.take m)) := Rd.grown HR6.out hg7
        clear hg7 hi7 hrest7
        go_wp2_with fail
        refine (same_at _ _ c6 c1 (l.take m) (l.take m) m m w7 HTB.out HT.out HT.out HR7.out HB7.out).mono ?_
        rintro e w8 ⟨rfl, n3, rfl⟩
        rw [ht]
        go_wp2
        go_ret
        exact ⟨rfl, below_drewN (below_of_grown HG7.out) n3⟩
      | true =>
        have HPT : Hid (∀ k, 1 ≤ k → k < i → prin (l.getD k 0) = true ∧ ¬ l.getD k 0 = 92) := HPL.out rfl
        go_wp2
        go_loop [11] (fun iv => ∃ k : Nat, 1 ≤ k ∧ k + 1 ≤ m ∧ iv = .int .i64 k) (fun iv => m - (intOf iv).toNat)
        case atStart => exact ⟨1, by omega, by omega, rfl⟩
        case round =>
          obtain ⟨k, hk1, hkm, rfl⟩ := hrel
          by_cases hlt : k + 1 < m
          · obtain ⟨b1', o1', e, gk⟩ := HB5.out k (by omega)
            cases e
            have hpk := HPT.out k hk1 (by have := HM.out; omega)
            generalize l.getD k 0 = c at *
            have hc92 : (c == 92) = false := by simpa using hpk.2
            have hcp : 32 ≤ c ∧ c ≤ 126 := by have := hpk.1; simpa [prin] using this
            have hc32 : 32 ≤ c := hcp.1
            have hc126 : c ≤ 126 := hcp.2
            clear hpk hcp
            go_wp2
            go_round
            case rel => exact ⟨k + 1, by omega, by omega, by go_num⟩
            case measure => simp [intOf]; omega
          · have hkm1 : k = m - 1 := by omega
            go_wp2_with fail
            refine (clone_at _ c1 (l.take m) m w5 HT.out (Rd.take HB5.out m) (fun e => by cases e) HTB.out).mono ?_
            rintro e w6 ⟨qv, rfl, ho6, hg6⟩
            obtain ⟨a6, c6, rfl, hc6, hm6, hr6, hn6⟩ := clone_form_n ho6 m HT.out
            have HG6 : Hid (w.grownBy w6 none) := grown_trans HG5.out hg6
            have HB6 : Hid (Rd w6 (some ⟨b1, o1, none⟩) l) := Rd.grown HB5.out hg6
            have HR6 : Hid (Rd w6 a6 (l.take m)) := hr6
            have HC6 : Hid (m ≤ c6) := hc6
            have HM6 : Hid (c6 ≤ maxLen) := hm6
            clear hg6 hr6 ho6 hn6 hc6 hm6
            go_wp2_with fail
            refine (zzQuoted_any a6 m c6 (l.take m) false w6 HT.out.symm HR6.out (by rw [HT.out]; exact HC6.out) HM6.out (by rw [HT.out]; omega)).mono ?_
            rintro e w7 h7
            rw [HCUT.out] at h7
            obtain ⟨hg7, hi7, ra7, rc7, he7, hrest7⟩ := h7
            rw [HT.out, HM.out, Nat.sub_self] at he7
            subst he7
            have HG7 : Hid (w.grownBy w7 none) := grown_trans HG6.out hg7
            have HB7 : Hid (Rd w7 (some ⟨b1, o1, none⟩) (l.take m)) := Rd.take (Rd.grown HB6.out hg7) m
            have HR7 : Hid (Rd w7 a6 (l.take m)) := Rd.grown HR6.out hg7
            clear hg7 hi7 hrest7
            go_wp2_with fail
            refine (same_at _ _ c6 c1 (l.take m) (l.take m) m m w7 HTB.out HT.out HT.out HR7.out HB7.out).mono ?_
            rintro e w8 ⟨rfl, n3, rfl⟩
            rw [ht]
            go_wp2
            go_ret
            exact ⟨rfl, below_drewN (below_of_grown HG7.out) n3⟩

theorem splits_law (a0 : Option Addr) (len0 cap0 : Nat) (z0 : List Int) (a1 : Bool) (w : World) (w0 : IsRow .u8 w a0 len0 cap0 z0) :
    Calls Try.prog 5 #[.slice a0 len0 cap0, .bool a1] w fun e w' => e = .returned (.bool true) ∧ Below w.heap.size w w' := by
  obtain ⟨l0, e0, r0, n0, m0, _⟩ := w0.rd
  by_cases hs : len0 ≤ 1048576
  · exact splits_top a0 len0 cap0 l0 a1 w e0 r0 n0 hs
  · refine (splits_big a0 len0 cap0 a1 w (by omega) m0).mono ?_
    rintro e w' ⟨rfl, rfl⟩
    exact ⟨rfl, Below.refl _ _⟩
end Go.Proofs.Qxb6600432a.Top
