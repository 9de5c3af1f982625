/-
  The law FnQuotedReadsEncodedStringAndLeavesTail, walked.
-/
import Derived.Test.Qxb6600432aTopB
namespace Go.Proofs.Qxb6600432a.Top
open Go.RowKit
open Go.Proofs.Qxb6600432a.Plain Go.Proofs.Qxb6600432a.Mem Go.Proofs.Qxb6600432a.Base Go.Proofs.Qxb6600432a.Quoted Go.Proofs.Qxb6600432a.Enc
set_option linter.unusedVariables false
set_option linter.unusedSimpArgs false

theorem bytesC_yes (a0 a1 a2 : Option Addr) (n0 c0 n1 c1 n2 c2 : Nat) (w : World) (h : n0 + n1 + n2 ≤ 1048576) :
    Calls Try.prog 9 #[.slice a0 n0 c0, .slice a1 n1 c1, .slice a2 n2 c2] w fun e w' => e = .returned (.bool true) ∧ w' = w := by
  go_enter Try.func9, Try.ntmps9
  go_wp2
  go_ret
  exact ⟨rfl, rfl⟩
theorem bytesC_no (a0 a1 a2 : Option Addr) (n0 c0 n1 c1 n2 c2 : Nat) (w : World) (h : 1048576 < n0 + n1 + n2) (h0 : n0 ≤ maxLen) (h1 : n1 ≤ maxLen) (h2 : n2 ≤ maxLen) :
    Calls Try.prog 9 #[.slice a0 n0 c0, .slice a1 n1 c1, .slice a2 n2 c2] w fun e w' => e = .returned (.bool false) ∧ w' = w := by
  unfold maxLen at h0 h1 h2
  by_cases g0 : 1048576 < n0
  · go_enter Try.func9, Try.ntmps9
    go_wp2
    go_ret
    exact ⟨rfl, rfl⟩
  · by_cases g1 : 1048576 < n1
    · go_enter Try.func9, Try.ntmps9
      go_wp2
      go_ret
      exact ⟨rfl, rfl⟩
    · by_cases g01 : 1048576 < n0 + n1
      · go_enter Try.func9, Try.ntmps9
        go_wp2
        go_ret
        exact ⟨rfl, rfl⟩
      · by_cases g2 : 1048576 < n2
        · go_enter Try.func9, Try.ntmps9
          go_wp2
          go_ret
          exact ⟨rfl, rfl⟩
        · go_enter Try.func9, Try.ntmps9
          go_wp2
          go_ret
          exact ⟨rfl, rfl⟩
theorem reads_big (a0 a1 a2 : Option Addr) (n0 c0 n1 c1 n2 c2 : Nat) (w : World) (h : 65536 < n0 ∨ 65536 < n1 ∨ 262144 < n2) (h0 : n0 ≤ maxLen) (h1 : n1 ≤ maxLen) (h2 : n2 ≤ maxLen) :
    Calls Try.prog 3 #[.slice a0 n0 c0, .slice a1 n1 c1, .slice a2 n2 c2] w fun e w' => e = .returned (.bool true) ∧ w' = w := by
  by_cases hs : 1048576 < n0 + n1 + n2
  · go_enter Try.func3, Try.ntmps3
    go_wp2_with (go_at_call 9; refine (bytesC_no _ _ _ _ _ _ _ _ _ _ hs h0 h1 h2).mono ?_; rintro e w' ⟨rfl, hw⟩; obtain rfl := hw.symm)
    go_ret
    exact ⟨rfl, rfl⟩
  · by_cases g0 : 65536 < n0
    · go_enter Try.func3, Try.ntmps3
      go_wp2_with (go_at_call 9; refine (bytesC_yes _ _ _ _ _ _ _ _ _ _ (by omega)).mono ?_; rintro e w' ⟨rfl, hw⟩; obtain rfl := hw.symm)
      go_ret
      exact ⟨rfl, rfl⟩
    · by_cases g1 : 65536 < n1
      · go_enter Try.func3, Try.ntmps3
        go_wp2_with (go_at_call 9; refine (bytesC_yes _ _ _ _ _ _ _ _ _ _ (by omega)).mono ?_; rintro e w' ⟨rfl, hw⟩; obtain rfl := hw.symm)
        go_ret
        exact ⟨rfl, rfl⟩
      · have g2 : 262144 < n2 := by omega
        go_enter Try.func3, Try.ntmps3
        go_wp2_with (go_at_call 9; refine (bytesC_yes _ _ _ _ _ _ _ _ _ _ (by omega)).mono ?_; rintro e w' ⟨rfl, hw⟩; obtain rfl := hw.symm)
        go_ret
        exact ⟨rfl, rfl⟩

set_option maxHeartbeats 1000000 in
set_option maxRecDepth 100000 in
theorem reads_top (a0 a1 a2 : Option Addr) (n0 c0 n1 c1 n2 c2 : Nat) (cs : List Int) (es : List Bool) (ts : List Int) (w : World) (e0 : cs.length = n0) (e1 : es.length = n1) (e2 : ts.length = n2) (r0 : Rd w a0 cs) (r1 : RdB w a1 es) (r2 : Rd w a2 ts)
    (z0 : a0 = none → c0 = 0) (z1 : a1 = none → c1 = 0) (z2 : a2 = none → c2 = 0) (h0 : n0 ≤ 65536) (h1 : n1 ≤ 65536) (h2 : n2 ≤ 262144) :
    Calls Try.prog 3 #[.slice a0 n0 c0, .slice a1 n1 c1, .slice a2 n2 c2] w fun e w' => e = .returned (.bool true) ∧ Below w.heap.size w w' := by
  have R0 : Hid (Rd w a0 cs) := r0
  have R1 : Hid (RdB w a1 es) := r1
  have R2 : Hid (Rd w a2 ts) := r2
  have Z0 : Hid (a0 = none → c0 = 0) := z0
  have Z1 : Hid (a1 = none → c1 = 0) := z1
  have Z2 : Hid (a2 = none → c2 = 0) := z2
  have E0 : Hid (cs.length = n0) := e0
  have E1 : Hid (es.length = n1) := e1
  have E2 : Hid (ts.length = n2) := e2
  clear r0 r1 r2 z0 z1 z2 e0 e1 e2
  obtain ⟨i0, hi, hz0, hz1, hz2⟩ := info_parts info5
  go_enter Try.func3, Try.ntmps3
  go_wp2_with (go_at_call 9; refine (bytesC_yes _ _ _ _ _ _ _ _ _ _ (by omega)).mono ?_; rintro e w' ⟨rfl, hw⟩; obtain rfl := hw.symm)
  refine (clone_at a0 c0 cs n0 w E0.out R0.out Z0.out (by rw [E0.out]; omega)).mono ?_
  rintro e w1 ⟨v1, rfl, ho1, hg1⟩
  obtain ⟨ca, cc, rfl, _, _, hr1, _⟩ := clone_form_n ho1 n0 E0.out
  have HC1 : Hid (Rd w1 ca cs) := hr1
  have HG1 : Hid (w.grownBy w1 none) := hg1
  clear ho1 hr1 hg1
  go_wp2_with fail
  refine (cloneB_any a1 c1 n1 es w1 E1.out (RdB.grown R1.out HG1.out) Z1.out (by omega)).mono ?_
  rintro e w2 ⟨ea, ec, rfl, hr2, hg2⟩
  have HC2 : Hid (Rd w2 ca cs) := Rd.grown HC1.out hg2
  have HE2 : Hid (RdB w2 ea es) := hr2
  have HG2 : Hid (w.grownBy w2 none) := grown_trans HG1.out hg2
  clear hr2 hg2 HG1 HC1
  go_wp2_with fail
  refine (clone_at a2 c2 ts n2 w2 E2.out (Rd.grown R2.out HG2.out) Z2.out (by rw [E2.out]; omega)).mono ?_
  rintro e w2t ⟨v2, rfl, ho2, hg2⟩
  obtain ⟨ta, tc, rfl, _, _, hrt, hnt⟩ := clone_form_n ho2 n2 E2.out
  have HT2 : Hid (Rd w2t ta ts) := hrt
  have HNT : Hid (ta = none → tc = 0) := hnt
  have HC2t : Hid (Rd w2t ca cs) := Rd.grown HC2.out hg2
  have HE2t : Hid (RdB w2t ea es) := RdB.grown HE2.out hg2
  have HG2t : Hid (w.grownBy w2t none) := grown_trans HG2.out hg2
  clear ho2 hrt hnt hg2 HC2 HE2 HG2
  go_wp2_with fail
  refine (encode_any ca ea n0 cc n1 ec cs es w2t E0.out E1.out HC2t.out HE2t.out (by omega) (by omega)).mono ?_
  rintro e w3 ⟨g, bc, rfl, ho3, hg3⟩
  have hBl : (encF es 0 cs).length ≤ 131072 := by have := encF_len es cs 0; have := E0.out; omega
  have HQ0 : Hid (qz (34 :: (encF es 0 cs ++ 34 :: ts)) false = some ((encF es 0 cs).length + 1, plF es 0 cs)) := qz_enc es cs ts
  generalize encF es 0 cs = B at *
  generalize plF es 0 cs = PL at *
  have HB3 : Hid (Rd w3 (some ⟨g, 0, none⟩) B) := Own.rd ho3
  have HT3 : Hid (Rd w3 ta ts) := Rd.grown HT2.out hg3
  have HG3 : Hid (w.grownBy w3 none) := grown_trans HG2t.out hg3
  clear ho3 hg3 HG2t HC2t HE2t HT2
  go_wp2_with (first | (at_make; refine wpList_make_own _ rfl _ _ 22 rfl w3.heap.size 5 i0 (.int .u8 0) 1 Try.underlying22 hi hz0 hz1 _ _ _ (B.length + 2 + n2) rfl rfl (by omega) (by rw [hz2]; omega) (by unfold maxLen; omega) (Nat.le_refl _) ?_))
  intro w4 hown4 hgrow4
  have HO4 : Hid (Own w4 w3.heap.size (.slice (some ⟨w3.heap.size, 0, none⟩) 0 (B.length + 2 + n2)) []) := hown4
  have HG4 : Hid (w3.grownBy w4 none) := hgrow4
  have hs4 : w3.heap.size ≤ w4.heap.size := hgrow4.size
  clear hown4 hgrow4 hi hz0 hz1 hz2
  have hg5 : Hid (∀ (w5 : World) (v5 : Value), Own w5 w3.heap.size v5 ([] ++ [34]) → Grew (w4.alloc (.cells #[.int .u8 34] 5)) (.slice (some ⟨w3.heap.size, 0, none⟩) 0 (B.length + 2 + n2)) w5 v5 → w3.grownBy w5 none) :=
    fun w5 v5 ho hG => grew_new HG4.out (fun g hg => (HO4.out.lt g hg).1) ((Grew.alloc _ _ _).trans hG)
  go_wp2_with (first
    | (at_builtin; refine wpList_app Try.underlying22 info5 rfl (.tmp 60) (.tmp 61) rfl w3.heap.size _ [] rfl (Own.alloc HO4.out _) ⟨w4.heap.size, 0, none⟩ 1 1 [34] rfl rfl (one_new _ _) (by simp) (by simp; omega) ?_; intro v5 w5 hown5 hG5; have hgn5 := hg5.out w5 v5 hown5 hG5; have HR5 : Hid (Rd w5 (some ⟨g, 0, none⟩) B) := Rd.grown HB3.out hgn5; have hs5 : w3.heap.size ≤ w5.heap.size := hgn5.size)
    | (at_builtin; refine wpList_app_src rfl (.tmp 63) (.tmp 64) rfl w3.heap.size _ _ rfl hown5 _ _ _ B rfl rfl (by intro e; cases e) HR5.out (by simp; omega) hs5 ?_; intro v6 w6 hown6 hG6; have hgn6 : w3.grownBy w6 none := grew_new hgn5 (fun g hg => (hown5.lt g hg).1) hG6; have hs6 : w3.heap.size ≤ w6.heap.size := hgn6.size)
    | (at_builtin; refine wpList_app Try.underlying22 info5 rfl (.tmp 66) (.tmp 67) rfl w3.heap.size _ _ rfl (Own.alloc hown6 _) ⟨w6.heap.size, 0, none⟩ 1 1 [34] rfl rfl (one_new _ _) (by simp; omega) (by simp; omega) ?_; intro v7 w7 hown7 hG7; have hgn7 : w3.grownBy w7 none := grew_new hgn6 (fun g hg => (hown6.lt g hg).1) ((Grew.alloc _ _ _).trans hG7); have hs7 : w3.heap.size ≤ w7.heap.size := hgn7.size; have HR7 : Hid (Rd w7 ta ts) := Rd.grown HT3.out hgn7)
    | (at_builtin; refine wpList_app_src rfl (.tmp 69) (.tmp 70) rfl w3.heap.size _ _ rfl hown7 ta n2 tc ts E2.out.symm rfl HNT.out HR7.out (by have := E2.out; simp; omega) hs7 ?_; intro v8 w8 hown8 hG8))
  have hgn8 : w3.grownBy w8 none := grew_new hgn7 (fun g hg => (hown7.lt g hg).1) hG8
  have HG8 : Hid (w.grownBy w8 none) := grown_trans HG3.out hgn8
  have HT8 : Hid (Rd w8 ta ts) := Rd.grown HT3.out hgn8
  rw [show (([] : List Int) ++ [34] ++ B ++ [34] ++ ts) = 34 :: (B ++ 34 :: ts) by simp] at hown8
  have HL : Hid ((34 :: (B ++ 34 :: ts)).length = B.length + 2 + n2) := by show _ = _; have := E2.out; simp; omega
  have HD : Hid ((34 :: (B ++ 34 :: ts)).drop (B.length + 2) = ts) := by show _ = _; simp
  clear hG8 hgn8 hown7 hG7 hgn7 HR7 hown6 hG6 hgn6 hown5 hG5 hgn5 HR5 hg5 HO4 HG4 HB3 HT3 HG3
  generalize 34 :: (B ++ 34 :: ts) = L at *
  obtain ⟨a8, c8, rfl, hc8, hm8, hr8, hn8⟩ := clone_form_n hown8 _ HL.out
  have HR8 : Hid (Rd w8 a8 L) := hr8
  have HM8 : Hid (c8 ≤ maxLen) := hm8
  clear hr8 hn8 hown8
  refine (zzQuoted_any a8 (B.length + 2 + n2) c8 L false w8 HL.out.symm HR8.out (by rw [HL.out]; exact hc8) HM8.out (by rw [HL.out]; omega)).mono ?_
  rintro e w9 h9
  rw [HQ0.out] at h9
  obtain ⟨hg9, hi9, ra, rc, he9, hrest⟩ := h9
  rw [HL.out, show B.length + 2 + n2 - (B.length + 1 + 1) = n2 by omega] at he9
  have HD9 : Hid (Rd w9 ra ts) := by have h := hrest; rw [HD.out] at h; exact h
  subst he9
  have HG9 : Hid (w.grownBy w9 none) := grown_trans HG8.out hg9
  have HB9 : Hid (Rd w9 a8 L) := Rd.grown HR8.out hg9
  have HT9 : Hid (Rd w9 ta ts) := Rd.grown HT8.out hg9
  clear hg9 hrest hi9
  have hpp : (PL != PL) = false := by cases PL <;> rfl
  have hpe : (PL == PL) = true := by cases PL <;> rfl
  go_wp2_with fail
  have HT : Hid ((L.take (B.length + 2)).length = B.length + 2) := by show _ = _; have := HL.out; simp; omega
  have HTB : Hid ((L.take (B.length + 2)).length ≤ 1099511627776) := by show _ ≤ _; rw [HT.out]; omega
  have ht : (L.take (B.length + 2) == L.take (B.length + 2)) = true := by simp
  refine (same_at _ _ c8 c8 (L.take (B.length + 2)) (L.take (B.length + 2)) (B.length + 1 + 1) (B.length + 2) w9 HTB.out HT.out HT.out (Rd.take HB9.out _) (Rd.take HB9.out _)).mono ?_
  rintro e w10 ⟨rfl, k1, hw10⟩
  rw [ht]
  have HG10 : Hid (w.grownBy w10 none) := by rw [hw10]; exact grown_drewN HG9.out k1
  have HD10 : Hid (Rd w10 ra ts) := by rw [hw10]; exact HD9.out
  have HT10 : Hid (Rd w10 ta ts) := by rw [hw10]; exact HT9.out
  clear hw10
  have hts : (ts == ts) = true := by simp
  go_wp2_with fail
  refine (same_at _ _ rc tc ts ts n2 n2 w10 (by rw [E2.out]; omega) E2.out E2.out HD10.out HT10.out).mono ?_
  rintro e w11 ⟨rfl, k2, rfl⟩
  rw [hts]
  go_wp2
  go_ret
  exact ⟨rfl, below_drewN (below_of_grown HG10.out) k2⟩
end Go.Proofs.Qxb6600432a.Top
