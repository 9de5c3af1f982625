/-
  The law on changedVariables, walked.
-/
import Derived.Test.Qxb6600432aLaw6Plain
import Derived.Test.Qxb6600432aStr2
import Derived.BigQuiet
namespace Go.Proofs.Qxb6600432a.Law6
open Go.RowKit Go.Maps
open Go.Proofs.Qxb6600432a.Mem Go.Proofs.Qxb6600432a.Top Go.Proofs.Qxb6600432a.Str Go.Proofs.Qxb6600432a.Maps Go.Proofs.Qxb6600432a.Sort Go.Proofs.Qxb6600432a.Chg
set_option linter.unusedVariables false
set_option linter.unusedSimpArgs false

set_option maxHeartbeats 2000000 in
set_option maxRecDepth 100000 in
theorem law_any (a0 a1 a2 a3 : Option Addr) (n0 c0 n1 c1 n2 c2 n3 c3 : Nat) (s0 s1 s2 s3 : List (List UInt8)) (w : World)
    (hn0 : s0.length = n0) (hr0 : RdS w a0 s0) (hb0 : n0 ≤ 9223372036854775807) (hl0 : ∀ x ∈ s0, x.length ≤ maxLen) (hz0 : a0 = none → c0 = 0)
    (hn1 : s1.length = n1) (hr1 : RdS w a1 s1) (hb1 : n1 ≤ 9223372036854775807) (hl1 : ∀ x ∈ s1, x.length ≤ maxLen) (hz1 : a1 = none → c1 = 0)
    (hn2 : s2.length = n2) (hr2 : RdS w a2 s2) (hb2 : n2 ≤ 9223372036854775807) (hl2 : ∀ x ∈ s2, x.length ≤ maxLen) (hz2 : a2 = none → c2 = 0)
    (hn3 : s3.length = n3) (hr3 : RdS w a3 s3) (hb3 : n3 ≤ 9223372036854775807) (hl3 : ∀ x ∈ s3, x.length ≤ maxLen) (hz3 : a3 = none → c3 = 0) :
    Calls Try.prog 6 #[.slice a0 n0 c0, .slice a1 n1 c1, .slice a2 n2 c2, .slice a3 n3 c3] w fun e w' => e = .returned (.bool true) ∧ w.grownBy w' none := by
  have HB := zzBytes_any a0 a1 a2 a3 n0 c0 n1 c1 n2 c2 n3 c3 s0 s1 s2 s3 w hn0 hr0 hb0 hl0 hn1 hr1 hb1 hl1 hn2 hr2 hb2 hl2 hn3 hr3 hb3 hl3
  have hmm := fun (n : Int) (w : World) => run_makeHint 42 9 4 Try.underlying42 n w
  have R0 : Hid (RdS w a0 s0) := hr0
  have R1 : Hid (RdS w a1 s1) := hr1
  have R2 : Hid (RdS w a2 s2) := hr2
  have R3 : Hid (RdS w a3 s3) := hr3
  have N0 : Hid (s0.length = n0) := hn0
  have N1 : Hid (s1.length = n1) := hn1
  have N2 : Hid (s2.length = n2) := hn2
  have N3 : Hid (s3.length = n3) := hn3
  have L0 : Hid (∀ x ∈ s0, x.length ≤ maxLen) := hl0
  have L1 : Hid (∀ x ∈ s1, x.length ≤ maxLen) := hl1
  have L2 : Hid (∀ x ∈ s2, x.length ≤ maxLen) := hl2
  have L3 : Hid (∀ x ∈ s3, x.length ≤ maxLen) := hl3
  have Z0 : Hid (a0 = none → c0 = 0) := hz0
  have Z1 : Hid (a1 = none → c1 = 0) := hz1
  have Z2 : Hid (a2 = none → c2 = 0) := hz2
  have Z3 : Hid (a3 = none → c3 = 0) := hz3
  clear hn0 hn1 hn2 hn3 hr0 hr1 hr2 hr3 hl0 hl1 hl2 hl3 hz0 hz1 hz2 hz3
  go_enter Try.func6, Try.ntmps6
  go_wp2_with fail
  refine HB.mono ?_
  rintro e w' ⟨⟨b, rfl⟩, hw⟩
  obtain rfl := hw.symm
  clear HB hw
  cases b with
  | false =>
    go_wp2
    go_ret
    exact ⟨rfl, World.grownBy.refl _ _⟩
  | true =>
    by_cases g0 : 65536 < n0
    · go_wp2
      go_ret
      exact ⟨rfl, World.grownBy.refl _ _⟩
    by_cases g1 : 65536 < n1
    · go_wp2
      go_ret
      exact ⟨rfl, World.grownBy.refl _ _⟩
    by_cases g2 : 65536 < n2
    · go_wp2
      go_ret
      exact ⟨rfl, World.grownBy.refl _ _⟩
    by_cases g3 : 65536 < n3
    · go_wp2
      go_ret
      exact ⟨rfl, World.grownBy.refl _ _⟩
    go_wp2_with fail
    refine (strBytes_any a0 n0 c0 s0 _ N0.out R0.out (by omega) L0.out).mono ?_
    rintro e w' ⟨⟨m0, rfl, hm0⟩, hw⟩
    obtain rfl := hw.symm
    clear hw
    go_wp2_with fail
    refine (strBytes_any a1 n1 c1 s1 _ N1.out R1.out (by omega) L1.out).mono ?_
    rintro e w' ⟨⟨m1, rfl, hm1⟩, hw⟩
    obtain rfl := hw.symm
    clear hw
    go_wp2_with fail
    refine (strBytes_any a2 n2 c2 s2 _ N2.out R2.out (by omega) L2.out).mono ?_
    rintro e w' ⟨⟨m2, rfl, hm2⟩, hw⟩
    obtain rfl := hw.symm
    clear hw
    go_wp2_with fail
    refine (strBytes_any a3 n3 c3 s3 _ N3.out R3.out (by omega) L3.out).mono ?_
    rintro e w' ⟨⟨m3, rfl, hm3⟩, hw⟩
    obtain rfl := hw.symm
    clear hw
    by_cases hs : 1048576 < m0 + m1 + m2 + m3
    · go_wp2
      go_ret
      exact ⟨rfl, World.grownBy.refl _ _⟩
    go_wp2_with fail
    refine (cloneS_any a0 c0 n0 s0 w N0.out R0.out Z0.out (by omega)).mono ?_
    rintro e w1 ⟨b0, d0, rfl, h0, hg⟩
    have Q0 : Hid (RdS w1 b0 s0) := h0
    have G1 : Hid (w.grownBy w1 none) := hg
    clear h0 hg
    go_wp2_with fail
    refine (cloneS_any a1 c1 n1 s1 w1 N1.out (R1.out.grown G1.out) Z1.out (by omega)).mono ?_
    rintro e w2 ⟨b1, d1, rfl, h0, hg⟩
    have Q1 : Hid (RdS w2 b1 s1) := h0
    have Q0' : Hid (RdS w2 b0 s0) := Q0.out.grown hg
    have G2 : Hid (w.grownBy w2 none) := G1.out.andThen hg (fun j hj => by cases hj)
    clear h0 hg Q0 G1
    go_wp2_with fail
    refine (cloneS_any a2 c2 n2 s2 w2 N2.out (R2.out.grown G2.out) Z2.out (by omega)).mono ?_
    rintro e w3 ⟨b2, d2, rfl, h0, hg⟩
    have Q2 : Hid (RdS w3 b2 s2) := h0
    have Q1' : Hid (RdS w3 b1 s1) := Q1.out.grown hg
    have Q0 : Hid (RdS w3 b0 s0) := Q0'.out.grown hg
    have G3 : Hid (w.grownBy w3 none) := G2.out.andThen hg (fun j hj => by cases hj)
    clear h0 hg Q0' Q1 G2
    go_wp2_with fail
    refine (cloneS_any a3 c3 n3 s3 w3 N3.out (R3.out.grown G3.out) Z3.out (by omega)).mono ?_
    rintro e w4 ⟨b3, d3, rfl, h0, hg⟩
    have Q3 : Hid (RdS w4 b3 s3) := h0
    have Q2' : Hid (RdS w4 b2 s2) := Q2.out.grown hg
    have Q1 : Hid (RdS w4 b1 s1) := Q1'.out.grown hg
    have Q0' : Hid (RdS w4 b0 s0) := Q0.out.grown hg
    have G4 : Hid (w.grownBy w4 none) := G3.out.andThen hg (fun j hj => by cases hj)
    clear h0 hg Q0 Q1' Q2 G3
    go_wp2_with fail
    refine (build_any b0 b1 n0 d0 n1 d1 s0 s1 w4 N0.out N1.out Q0'.out Q1.out (by omega) (by omega) L0.out L1.out).mono ?_
    rintro e w5 ⟨mr, rfl, hM, hg⟩
    have MR : Hid (MapAt w5 mr (fillD s0 s1 n0)) := hM
    have Q3' : Hid (RdS w5 b3 s3) := Q3.out.grown hg
    have Q2 : Hid (RdS w5 b2 s2) := Q2'.out.grown hg
    have Q0 : Hid (RdS w5 b0 s0) := Q0'.out.grown hg
    have G5 : Hid (w.grownBy w5 none) := G4.out.andThen hg (fun j hj => by cases hj)
    clear hM hg Q0' Q1 Q2' Q3 G4
    go_wp2_with fail
    refine (build_any b2 b3 n2 d2 n3 d3 s2 s3 w5 N2.out N3.out Q2.out Q3'.out (by omega) (by omega) L2.out L3.out).mono ?_
    rintro e w6 ⟨mv, rfl, hM, hg⟩
    have MV : Hid (MapAt w6 mv (fillD s2 s3 n2)) := hM
    have MR' : Hid (MapAt w6 mr (fillD s0 s1 n0)) := MR.out.grown hg
    have Q2' : Hid (RdS w6 b2 s2) := Q2.out.grown hg
    have Q0' : Hid (RdS w6 b0 s0) := Q0.out.grown hg
    have G6 : Hid (w.grownBy w6 none) := G5.out.andThen hg (fun j hj => by cases hj)
    clear hM hg Q0 Q2 Q3' G5 MR
    go_wp2_with fail
    refine (changed21 mr mv _ _ w6 MR'.out MV.out).mono ?_
    rintro e w7 ⟨v, ts, rfl, hO, hP, hmem, hg⟩
    obtain ⟨ga, gc, rfl, hRt⟩ := own_form hO
    have KS : Hid (∀ x, chg (fillD s0 s1 n0) (fillD s2 s3 n2) x = true → x ∈ s0 ++ s2) := fun x h => by
      have h' := h
      rw [← N0.out, ← N2.out] at h'
      exact chg_keys h'
    generalize fillD s0 s1 n0 = Dr at *
    generalize fillD s2 s3 n2 = Dv at *
    have hnd := pair_nodup hP
    have hlen : ts.length ≤ 131072 := by
      have h1 := nodup_le (m := s0 ++ s2) hnd (fun x hx => KS.out x ((hmem x).1 hx))
      rw [List.length_append, N0.out, N2.out] at h1
      omega
    have ND : Hid (ts.Nodup) := hnd
    have PW : Hid (ts.Pairwise (fun a b => a < b)) := hP
    have ME : Hid (∀ x, x ∈ ts ↔ chg Dr Dv x = true) := hmem
    have RT : Hid (RdS w7 ga ts) := hRt
    have MV7 : Hid (MapAt w7 mv Dv) := MV.out.grown hg
    have MR7 : Hid (MapAt w7 mr Dr) := MR'.out.grown hg
    have Q2 : Hid (RdS w7 b2 s2) := Q2'.out.grown hg
    have Q0 : Hid (RdS w7 b0 s0) := Q0'.out.grown hg
    have G7 : Hid (w.grownBy w7 none) := G6.out.andThen hg (fun j hj => by cases hj)
    obtain ⟨L, hL⟩ : ∃ L, ts.length = L := ⟨_, rfl⟩
    have TL : Hid (ts.length = L) := hL
    rw [hL] at hlen ⊢
    clear hO hP hmem hg hRt hnd Q0' Q2' MR' MV G6 hL
    go_wp2_with fail
    go_loopw [12] (fun iv wr => ∃ k n : Nat, 1 ≤ k ∧ k ≤ L + 1 ∧ iv = .int .i64 k ∧ wr = w7.drewN n) (fun iv _ => L + 1 - (intOf iv).toNat)
    case atStart => exact ⟨1, 0, by omega, by omega, rfl, rfl⟩
    case round =>
      obtain ⟨k, n, hk1, hk, rfl, rfl⟩ := hrel
      by_cases hlt : k < L
      · obtain ⟨j, rfl⟩ : ∃ j, k = j + 1 := ⟨k - 1, by omega⟩
        obtain ⟨gb, go, rfl, hc0⟩ := RT.out j (by rw [TL.out]; omega)
        obtain ⟨gb', go', e, hc1⟩ := RT.out (j + 1) (by rw [TL.out]; omega)
        cases e
        have hless := pair_less PW.out j (by rw [TL.out]; omega)
        generalize ts.getD j [] = x at *
        generalize ts.getD (j + 1) [] = y at *
        go_wp2_with fail
        go_quiet (fail)
        go_wp2
        go_roundw
        case rel => exact ⟨j + 2, _, by omega, by omega, by go_num, rfl⟩
        case measure => simp [intOf]; omega
      · have RT8 : Hid (RdS (w7.drewN n) ga ts) := RT.out
        have MV8 : Hid (MapAt (w7.drewN n) mv Dv) := MV7.out
        have MR8 : Hid (MapAt (w7.drewN n) mr Dr) := MR7.out
        have Q28 : Hid (RdS (w7.drewN n) b2 s2) := Q2.out
        have Q08 : Hid (RdS (w7.drewN n) b0 s0) := Q0.out
        have G8 : Hid (w.grownBy (w7.drewN n) none) := ⟨G7.out.os, G7.out.tape, G7.out.output, G7.out.size, G7.out.block⟩
        have LE : Hid (∀ x ∈ ts, x.length ≤ maxLen) := fun x hx => by
          rcases List.mem_append.1 (KS.out x ((ME.out x).1 hx)) with h | h
          · exact L0.out x h
          · exact L2.out x h
        clear RT MV7 MR7 Q2 Q0 G7
        generalize w7.drewN n = w8 at *
        go_wp2_with fail
        go_loopw [13] (fun iv wr => ∃ k : Nat, k ≤ L ∧ iv = .int .i64 k ∧ wr = w8) (fun iv _ => L - (intOf iv).toNat)
        case atStart => exact ⟨0, by omega, rfl, rfl⟩
        case round =>
          obtain ⟨k2, hk2, rfl, rfl⟩ := hrel
          by_cases hlt2 : k2 < L
          · obtain ⟨gb, go, rfl, hc⟩ := RT8.out k2 (by rw [TL.out]; exact hlt2)
            have hxm := getD_mem ts k2 [] (by rw [TL.out]; exact hlt2)
            have hxl := LE.out _ hxm
            have hch := (ME.out _).1 hxm
            clear hxm
            generalize ts.getD k2 [] = x at *
            have HC := changed_any mr mv Dr Dv x wr MR8.out MV8.out hxl
            rw [hch] at HC
            clear hch
            go_wp2_with (first
              | (go_at_call 22; refine HC.mono ?_; rintro e w' ⟨rfl, hw⟩; obtain rfl := hw.symm; clear hw)
              | go_in)
            go_roundw
            case rel => exact ⟨k2 + 1, by omega, by go_num, by trivial⟩
            case measure => simp [intOf]; omega
          · obtain ⟨w8, hw8⟩ : ∃ w8, w8 = wr := ⟨_, rfl⟩
            subst hw8
            have S0 : Hid (SeenAt (w8.alloc (.map #[] 0)) w8.heap.size 0 []) := SeenAt.made w8
            have ga8 := World.grownBy_alloc w8 (.map #[] 0) none
            have ST0 : Hid (Stand w b0 b2 s0 s2 mr mv Dr Dv w8.heap.size (w8.alloc (.map #[] 0))) := ⟨RdS.alloc Q08.out _, RdS.alloc Q28.out _, MR8.out.grown ga8, MV8.out.grown ga8, G8.out.andThen ga8 (fun j hj => by cases hj), MR8.out.lt, MV8.out.lt, G8.out.size⟩
            clear ga8 RT8 MV8 MR8 Q28 Q08 G8
            go_wp2_with fail
            go_loopw [15, 16] (fun wv iv wr => ∃ (k : Nat) (us : List (List UInt8)), k ≤ n0 ∧ iv = .int .i64 k ∧ Part (s0.take k) us ∧ wv = .int .i64 (((us.filter (chg Dr Dv)).length : Nat) : Int) ∧ SeenAt wr w8.heap.size us.length us ∧ Stand w b0 b2 s0 s2 mr mv Dr Dv w8.heap.size wr) (fun wv iv _ => n0 - (intOf iv).toNat)
            case atStart => exact ⟨0, [], by omega, rfl, by simpa using Part.start, rfl, S0.out, ST0.out⟩
            case round =>
              obtain ⟨k, us, hk, rfl, hp, rfl, hS, hSt⟩ := hrel
              have SE : Hid (SeenAt wr w8.heap.size us.length us) := hS
              have ST : Hid (Stand w b0 b2 s0 s2 mr mv Dr Dv w8.heap.size wr) := hSt
              have PA : Hid (Part (s0.take k) us) := hp
              have hul : us.length ≤ 131072 := by
                have h1 := hp.2.2
                rw [List.length_take] at h1
                omega
              obtain ⟨q, hq⟩ : ∃ q, (us.filter (chg Dr Dv)).length = q := ⟨_, rfl⟩
              have hql : q ≤ 131072 := by rw [← hq]; exact Nat.le_trans (List.length_filter_le _ _) hul
              have QQ : Hid ((us.filter (chg Dr Dv)).length = q) := hq
              rw [hq]
              clear hS hSt hp hq
              by_cases hlt : k < n0
              · obtain ⟨gb, go, rfl, hc⟩ := ST.out.1 k (by rw [N0.out]; exact hlt)
                have hxl := le_getD L0.out k
                have TK : Hid (s0.take (k + 1) = s0.take k ++ [s0.getD k []]) := take_step s0 k (by rw [N0.out]; exact hlt)
                generalize s0.getD k [] = x at *
                obtain ⟨d, hd⟩ : ∃ d, decide (x ∈ us) = d := ⟨_, rfl⟩
                have HD : Hid (decide (x ∈ us) = d) := hd
                clear hd
                cases d with
                | true =>
                  go_wp2_with (first
                    | (at_lookup; refine wpList_seen rfl (.tmp 120) (.tmp 121) rfl w8.heap.size us.length us rfl SE.out x rfl hxl _ HD.out ?_)
                    | go_in)
                  go_roundw
                  case rel => exact ⟨k + 1, us, by omega, by go_num, by rw [TK.out]; exact PA.out.old (of_decide_eq_true HD.out), by rw [QQ.out], SE.out, ST.out⟩
                  case measure => simp [intOf]; omega
                | false =>
                  have P1 : Hid (Part (s0.take (k + 1)) (us ++ [x])) := by
                    show Part (s0.take (k + 1)) (us ++ [x])
                    rw [TK.out]
                    exact PA.out.new (of_decide_eq_false HD.out)
                  obtain ⟨cb, hcb⟩ : ∃ cb, chg Dr Dv x = cb := ⟨_, rfl⟩
                  have HCB : Hid (chg Dr Dv x = cb) := hcb
                  clear hcb
                  cases cb with
                  | true =>
                    have K1 : Hid ((((us ++ [x]).filter (chg Dr Dv)).length : Int) = (q : Int) + 1) := by
                      show (((us ++ [x]).filter (chg Dr Dv)).length : Int) = (q : Int) + 1
                      rw [filter_snoc_true _ _ _ HCB.out, List.length_append, QQ.out]
                      simp
                    go_wp2_with (first
                      | (at_lookup; refine wpList_seen rfl (.tmp 120) (.tmp 121) rfl w8.heap.size us.length us rfl SE.out x rfl hxl _ HD.out ?_)
                      | (at_mapUpdate; refine wpList_see rfl (.tmp 124) (.tmp 125) _ rfl w8.heap.size us.length us rfl SE.out (by unfold maxLen; omega) x rfl hxl rfl ?_; intro w9 hs9 hg9; have S9 : Hid (SeenAt w9 w8.heap.size (us.length + 1) (us ++ [x])) := hs9; have ST9 : Hid (Stand w (some ⟨gb, go, none⟩) b2 s0 s2 mr mv Dr Dv w8.heap.size w9) := ST.out.see SE.out hg9; clear hs9 hg9)
                      | (go_at_call 22; refine (changed_any mr mv Dr Dv x _ ST9.out.2.2.1 ST9.out.2.2.2.1 hxl).mono ?_; rintro e w' ⟨rfl, hw⟩; obtain rfl := hw.symm; clear hw; rw [HCB.out])
                      | go_in)
                    go_roundw
                    case rel => exact ⟨k + 1, us ++ [x], by omega, by go_num, P1.out, by rw [K1.out], by simpa using S9.out, ST9.out⟩
                    case measure => simp [intOf]; omega
                  | false =>
                    have K1 : Hid (((us ++ [x]).filter (chg Dr Dv)).length = q) := by
                      show ((us ++ [x]).filter (chg Dr Dv)).length = q
                      rw [filter_snoc_false _ _ _ HCB.out, QQ.out]
                    go_wp2_with (first
                      | (at_lookup; refine wpList_seen rfl (.tmp 120) (.tmp 121) rfl w8.heap.size us.length us rfl SE.out x rfl hxl _ HD.out ?_)
                      | (at_mapUpdate; refine wpList_see rfl (.tmp 124) (.tmp 125) _ rfl w8.heap.size us.length us rfl SE.out (by unfold maxLen; omega) x rfl hxl rfl ?_; intro w9 hs9 hg9; have S9 : Hid (SeenAt w9 w8.heap.size (us.length + 1) (us ++ [x])) := hs9; have ST9 : Hid (Stand w (some ⟨gb, go, none⟩) b2 s0 s2 mr mv Dr Dv w8.heap.size w9) := ST.out.see SE.out hg9; clear hs9 hg9)
                      | (go_at_call 22; refine (changed_any mr mv Dr Dv x _ ST9.out.2.2.1 ST9.out.2.2.2.1 hxl).mono ?_; rintro e w' ⟨rfl, hw⟩; obtain rfl := hw.symm; clear hw; rw [HCB.out])
                      | go_in)
                    go_roundw
                    case rel => exact ⟨k + 1, us ++ [x], by omega, by go_num, P1.out, by rw [K1.out], by simpa using S9.out, ST9.out⟩
                    case measure => simp [intOf]; omega
              · have P0 : Hid (Part (s0 ++ s2.take 0) us) := by
                  show Part (s0 ++ s2.take 0) us
                  have h := PA.out
                  rw [List.take_of_length_le (by rw [N0.out]; omega)] at h
                  simpa using h
                obtain ⟨wz, hwz⟩ : ∃ wz, wz = wr := ⟨_, rfl⟩
                subst hwz
                go_wp2_with fail
                go_loopw [15, 18] (fun wv iv wr => ∃ (k : Nat) (us : List (List UInt8)), k ≤ n2 ∧ iv = .int .i64 k ∧ Part (s0 ++ s2.take k) us ∧ wv = .int .i64 (((us.filter (chg Dr Dv)).length : Nat) : Int) ∧ SeenAt wr w8.heap.size us.length us ∧ Stand w b0 b2 s0 s2 mr mv Dr Dv w8.heap.size wr) (fun wv iv _ => n2 - (intOf iv).toNat)
                case atStart => exact ⟨0, us, by omega, rfl, P0.out, by rw [QQ.out], SE.out, ST.out⟩
                case round =>
                  obtain ⟨k, us, hk, rfl, hp, rfl, hS, hSt⟩ := hrel
                  have SE : Hid (SeenAt wr w8.heap.size us.length us) := hS
                  have ST : Hid (Stand w b0 b2 s0 s2 mr mv Dr Dv w8.heap.size wr) := hSt
                  have PA : Hid (Part (s0 ++ s2.take k) us) := hp
                  have hul : us.length ≤ 131072 := by
                    have h1 := hp.2.2
                    rw [List.length_append, List.length_take, N0.out] at h1
                    omega
                  obtain ⟨q, hq⟩ : ∃ q, (us.filter (chg Dr Dv)).length = q := ⟨_, rfl⟩
                  have hql : q ≤ 131072 := by rw [← hq]; exact Nat.le_trans (List.length_filter_le _ _) hul
                  have QQ : Hid ((us.filter (chg Dr Dv)).length = q) := hq
                  rw [hq]
                  clear hS hSt hp hq
                  by_cases hlt : k < n2
                  · obtain ⟨gb, go, rfl, hc⟩ := ST.out.2.1 k (by rw [N2.out]; exact hlt)
                    have hxl := le_getD L2.out k
                    have TK : Hid (s0 ++ s2.take (k + 1) = s0 ++ s2.take k ++ [s2.getD k []]) := by show _ = _; rw [take_step s2 k (by rw [N2.out]; exact hlt), List.append_assoc]
                    generalize s2.getD k [] = x at *
                    obtain ⟨d, hd⟩ : ∃ d, decide (x ∈ us) = d := ⟨_, rfl⟩
                    have HD : Hid (decide (x ∈ us) = d) := hd
                    clear hd
                    cases d with
                    | true =>
                      go_wp2_with (first
                        | (at_lookup; refine wpList_seen rfl (.tmp 142) (.tmp 143) rfl w8.heap.size us.length us rfl SE.out x rfl hxl _ HD.out ?_)
                        | go_in)
                      go_roundw
                      case rel => exact ⟨k + 1, us, by omega, by go_num, by rw [TK.out]; exact PA.out.old (of_decide_eq_true HD.out), by rw [QQ.out], SE.out, ST.out⟩
                      case measure => simp [intOf]; omega
                    | false =>
                      have P1 : Hid (Part (s0 ++ s2.take (k + 1)) (us ++ [x])) := by
                        show Part (s0 ++ s2.take (k + 1)) (us ++ [x])
                        rw [TK.out]
                        exact PA.out.new (of_decide_eq_false HD.out)
                      obtain ⟨cb, hcb⟩ : ∃ cb, chg Dr Dv x = cb := ⟨_, rfl⟩
                      have HCB : Hid (chg Dr Dv x = cb) := hcb
                      clear hcb
                      cases cb with
                      | true =>
                        have K1 : Hid ((((us ++ [x]).filter (chg Dr Dv)).length : Int) = (q : Int) + 1) := by
                          show (((us ++ [x]).filter (chg Dr Dv)).length : Int) = (q : Int) + 1
                          rw [filter_snoc_true _ _ _ HCB.out, List.length_append, QQ.out]
                          simp
                        go_wp2_with (first
                          | (at_lookup; refine wpList_seen rfl (.tmp 142) (.tmp 143) rfl w8.heap.size us.length us rfl SE.out x rfl hxl _ HD.out ?_)
                          | (at_mapUpdate; refine wpList_see rfl (.tmp 146) (.tmp 147) _ rfl w8.heap.size us.length us rfl SE.out (by unfold maxLen; omega) x rfl hxl rfl ?_; intro w9 hs9 hg9; have S9 : Hid (SeenAt w9 w8.heap.size (us.length + 1) (us ++ [x])) := hs9; have ST9 : Hid (Stand w b0 (some ⟨gb, go, none⟩) s0 s2 mr mv Dr Dv w8.heap.size w9) := ST.out.see SE.out hg9; clear hs9 hg9)
                          | (go_at_call 22; refine (changed_any mr mv Dr Dv x _ ST9.out.2.2.1 ST9.out.2.2.2.1 hxl).mono ?_; rintro e w' ⟨rfl, hw⟩; obtain rfl := hw.symm; clear hw; rw [HCB.out])
                          | go_in)
                        go_roundw
                        case rel => exact ⟨k + 1, us ++ [x], by omega, by go_num, P1.out, by rw [K1.out], by simpa using S9.out, ST9.out⟩
                        case measure => simp [intOf]; omega
                      | false =>
                        have K1 : Hid (((us ++ [x]).filter (chg Dr Dv)).length = q) := by
                          show ((us ++ [x]).filter (chg Dr Dv)).length = q
                          rw [filter_snoc_false _ _ _ HCB.out, QQ.out]
                        go_wp2_with (first
                          | (at_lookup; refine wpList_seen rfl (.tmp 142) (.tmp 143) rfl w8.heap.size us.length us rfl SE.out x rfl hxl _ HD.out ?_)
                          | (at_mapUpdate; refine wpList_see rfl (.tmp 146) (.tmp 147) _ rfl w8.heap.size us.length us rfl SE.out (by unfold maxLen; omega) x rfl hxl rfl ?_; intro w9 hs9 hg9; have S9 : Hid (SeenAt w9 w8.heap.size (us.length + 1) (us ++ [x])) := hs9; have ST9 : Hid (Stand w b0 (some ⟨gb, go, none⟩) s0 s2 mr mv Dr Dv w8.heap.size w9) := ST.out.see SE.out hg9; clear hs9 hg9)
                          | (go_at_call 22; refine (changed_any mr mv Dr Dv x _ ST9.out.2.2.1 ST9.out.2.2.2.1 hxl).mono ?_; rintro e w' ⟨rfl, hw⟩; obtain rfl := hw.symm; clear hw; rw [HCB.out])
                          | go_in)
                        go_roundw
                        case rel => exact ⟨k + 1, us ++ [x], by omega, by go_num, P1.out, by rw [K1.out], by simpa using S9.out, ST9.out⟩
                        case measure => simp [intOf]; omega
                  · have h := PA.out
                    rw [List.take_of_length_le (by rw [N2.out]; omega)] at h
                    have hcnt := (count_eq h ND.out ME.out KS.out).trans TL.out
                    obtain rfl : q = L := QQ.out.symm.trans hcnt
                    clear h hcnt
                    go_wp2
                    go_ret
                    exact ⟨rfl, ST.out.2.2.2.2.1⟩
end Go.Proofs.Qxb6600432a.Law6
