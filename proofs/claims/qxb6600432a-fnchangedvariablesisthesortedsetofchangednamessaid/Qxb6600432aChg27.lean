/-
  changedVariables, walked.
-/
import Derived.Test.Qxb6600432aChg
namespace Go.Proofs.Qxb6600432a.Chg
open Go.RowKit Go.Maps
open Go.Proofs.Qxb6600432a.Mem Go.Proofs.Qxb6600432a.Top Go.Proofs.Qxb6600432a.Str Go.Proofs.Qxb6600432a.Maps Go.Proofs.Qxb6600432a.Sort
set_option linter.unusedVariables false
set_option linter.unusedSimpArgs false

theorem own_none {w w' : World} {base : Nat} {v : Value} {l : List (List UInt8)} (ho : OwnS w base v l) (g : w.grownBy w' none) : OwnS w' base v l := by
  refine World.ownsRow.kept ho g ?_
  cases v.ownBlock with
  | none => exact .inl rfl
  | some b => exact .inr (by simp)
/-- An append onto the names: the range, the other map and the older world stand as they did. -/
theorem keep27 {w w1 w3 : World} {v : Value} {l : List (List UInt8)} {mv mr : Value} {r : Nat} {Dv Dr : DataW Unit} {left : Lit → Bool} {cnt : Nat} {o : Obj} (ho : OwnS w1 w.heap.size v l) (hr : RangesAt w1 mv r Dv left cnt) (hm : MapAt w1 mr Dr) (hg : w.grownBy w1 none)
    (hbv : ∀ b, mv = .map (some b) → b < w.heap.size) (hbr : ∀ b, mr = .map (some b) → b < w.heap.size) (h3 : (w1.alloc o).grownBy w3 v.ownBlock) : RangesAt w3 mv r Dv left cnt ∧ MapAt w3 mr Dr ∧ w.grownBy w3 none := by
  have ha := World.grownBy_alloc w1 o none
  refine ⟨(hr.kept ha (by simp) (by simp)).kept h3 (fun b e => own_ne_low ho (hbv b e)) (own_ne_iter ho hr), (hm.kept ha (by simp)).kept h3 (fun b e => own_ne_low ho (hbr b e)), (hg.andThen ha (fun j hj => by cases hj)).andThen h3 (fun j hj => .inl (World.ownsRow.lt ho j hj).1)⟩

set_option maxHeartbeats 1000000 in
set_option maxRecDepth 100000 in
theorem changed27 (mr mv : Value) (Dr Dv : DataW Unit) (w : World) (hr : MapAt w mr Dr) (hv : MapAt w mv Dv) :
    Calls Try.prog 27 #[mr, mv] w fun e w' => ∃ (v : Value) (ts : List (List UInt8)), e = .returned v ∧ OwnS w' w.heap.size v ts ∧ ts.Pairwise (fun a b => a < b) ∧ (∀ x, x ∈ ts ↔ chg Dr Dv x = true) ∧ w.grownBy w' none := by
  have HR : Hid (MapAt w mr Dr) := hr
  have HV : Hid (MapAt w mv Dv) := hv
  have hbr : Hid (∀ b, mr = .map (some b) → b < w.heap.size) := hr.lt
  have hbv : Hid (∀ b, mv = .map (some b) → b < w.heap.size) := hv.lt
  have szr : Hid (Maps.size Dr ≤ 1048576) := hr.size
  have szv : Hid (Maps.size Dv ≤ 1048576) := hv.size
  clear hr hv
  go_enter Try.func27, Try.ntmps27
  go_wp2_with (first
    | (at_range; refine wpList_rangeAt rfl (.tmp 14) rfl mv Dv rfl HV.out ?_; intro w0 hrg0 hg0; have RG0 : Hid (RangesAt w0 mv w.heap.size Dv (Maps.has Dv) (Maps.size Dv)) := hrg0; have G0 : Hid (w.grownBy w0 none) := hg0; clear hrg0 hg0)
    | go_in)
  go_frame
  go_loopw [5, 6] (fun nv kv wr => ∃ (left : Lit → Bool) (cnt : Nat) (vs : List (List UInt8)), RangesAt wr mv w.heap.size Dv left cnt ∧ vs.length + cnt ≤ Maps.size Dv ∧ Collected Dv left vs ∧ OwnS wr w.heap.size nv (vs.filter (chg Dr Dv)) ∧ kv = .int .i64 (((vs.filter (hasS Dr)).length : Nat) : Int) ∧ MapAt wr mr Dr ∧ w.grownBy wr none)
    (fun _ _ wr => leftAt wr mv w.heap.size)
  case atStart => exact ⟨_, _, [], RG0.out, by simp, Collected.start Dv, OwnS.nil _ _, rfl, HR.out.grown G0.out, G0.out⟩
  case round =>
    obtain ⟨left, cnt, vs, hrg, hcs, hC, hO, rfl, hM, hG⟩ := hrel
    have RG : Hid (RangesAt wr mv w.heap.size Dv left cnt) := hrg
    have CO : Hid (Collected Dv left vs) := hC
    have OW : Hid (OwnS wr w.heap.size u5 (vs.filter (chg Dr Dv))) := hO
    have MM : Hid (MapAt wr mr Dr) := hM
    have GG : Hid (w.grownBy wr none) := hG
    have CS : Hid (vs.length + cnt ≤ Maps.size Dv) := hcs
    have hvl : vs.length ≤ 1048576 := Nat.le_trans (Nat.le_trans (Nat.le_add_right _ _) hcs) szv.out
    have hfl : Hid ((vs.filter (chg Dr Dv)).length ≤ 1048576) := Nat.le_trans (List.length_filter_le _ _) hvl
    have hsz : Hid (w.heap.size ≤ wr.heap.size) := hG.size
    obtain ⟨kk, hkk⟩ : ∃ kk, (vs.filter (hasS Dr)).length = kk := ⟨_, rfl⟩
    have hkl : kk ≤ 1048576 := by rw [← hkk]; exact Nat.le_trans (List.length_filter_le _ _) hvl
    have KK : Hid ((vs.filter (hasS Dr)).length = kk) := hkk
    rw [hkk]
    clear hrg hC hO hM hG hcs hkk hvl
    go_wp2_with (first
      | (at_next; refine wpList_nextAt rfl (.tmp 15) rfl mv w.heap.size Dv left cnt rfl RG.out ?_ ?_)
      | go_in)
    · intro hz
      have HZ : Hid (∀ kl, left kl = false) := hz
      clear hz
      by_cases hlt : kk < Maps.size Dr
      · obtain ⟨wa, hwa⟩ : ∃ wa, wa = wr := ⟨_, rfl⟩
        subst hwa
        obtain ⟨nv, hnv⟩ : ∃ nv, nv = u5 := ⟨_, rfl⟩
        subst hnv
        have MV : Hid (MapAt wa mv Dv) := RG.out.owns
        have hbr1 : Hid (∀ b, mr = .map (some b) → b < w.heap.size) := hbr.out
        go_wp2_with (first
          | (at_len; refine wpList_lenAt rfl (.tmp 42) rfl mr Dr rfl MM.out ?_)
          | (at_range; refine wpList_rangeAt rfl (.tmp 45) rfl mr Dr rfl MM.out ?_; intro w2 hrg2 hg2; have RG2 : Hid (RangesAt w2 mr wa.heap.size Dr (Maps.has Dr) (Maps.size Dr)) := hrg2; have G2 : Hid (wa.grownBy w2 none) := hg2; clear hrg2 hg2)
          | go_in)
        go_frame
        go_loopw [5] (fun nv wq => ∃ (lr : Lit → Bool) (cn : Nat) (us : List (List UInt8)), RangesAt wq mr wa.heap.size Dr lr cn ∧ us.length + cn ≤ Maps.size Dr ∧ Collected Dr lr us ∧ OwnS wq w.heap.size nv (vs.filter (chg Dr Dv) ++ us.filter (fun x => !hasS Dv x)) ∧ MapAt wq mv Dv ∧ w.grownBy wq none)
          (fun _ wq => leftAt wq mr wa.heap.size)
        case atStart => exact ⟨_, _, [], RG2.out, by simp, Collected.start Dr, by simpa using own_none OW.out G2.out, MV.out.grown G2.out, GG.out.andThen G2.out (fun j hj => by cases hj)⟩
        case round =>
          obtain ⟨lr, cn, us, hrg, hcs, hC, hO, hM, hG⟩ := hrel
          have RQ : Hid (RangesAt wr mr wa.heap.size Dr lr cn) := hrg
          have CQ : Hid (Collected Dr lr us) := hC
          have OQ : Hid (OwnS wr w.heap.size u5 (vs.filter (chg Dr Dv) ++ us.filter (fun x => !hasS Dv x))) := hO
          have MQ : Hid (MapAt wr mv Dv) := hM
          have GQ : Hid (w.grownBy wr none) := hG
          have CSQ : Hid (us.length + cn ≤ Maps.size Dr) := hcs
          have hlq : (vs.filter (chg Dr Dv) ++ us.filter (fun x => !hasS Dv x)).length ≤ 2097152 := by
            have h1 := hfl.out
            have h2 := List.length_filter_le (fun x => !hasS Dv x) us
            have h3 := szr.out
            rw [List.length_append]
            omega
          have LQ : Hid ((vs.filter (chg Dr Dv) ++ us.filter (fun x => !hasS Dv x)).length ≤ 2097152) := hlq
          clear hrg hC hO hM hG hcs hlq
          go_wp2_with (first
            | (at_next; refine wpList_nextAt rfl (.tmp 46) rfl mr wa.heap.size Dr lr cn rfl RQ.out ?_ ?_)
            | go_in)
          · intro hz
            have hok := both_ok (Dr := Dr) (Dv := Dv) CO.out CQ.out HZ.out hz
            have OK : Hid (_ ∧ _) := hok
            clear hz hok
            go_wp2_with (first
              | (go_at_call 28; refine (sort_own _ w.heap.size u5 _ OQ.out (by have := LQ.out; omega)).mono ?_; rintro e w' ⟨rfl, hO, hG⟩; have O3 : Hid (OwnS w' w.heap.size u5 ((vs.filter (chg Dr Dv) ++ us.filter (fun x => !hasS Dv x)).mergeSort fun x y => decide (x ≤ y))) := hO; have G3 : Hid (wr.grownBy w' u5.ownBlock) := hG; clear hO hG)
              | go_in)
            go_ret
            exact ⟨_, _, rfl, O3.out, rising OK.out.1, (fun x => by rw [List.mem_mergeSort]; exact OK.out.2 x), GQ.out.andThen G3.out (fun j hj => .inl (World.ownsRow.lt OQ.out j hj).1)⟩
          · intro x c w1 cnt1 hxl hcl hlx hat hrg1 hlt1 hg1 hen
            have O1 : Hid (OwnS w1 w.heap.size u5 (vs.filter (chg Dr Dv) ++ us.filter (fun x => !hasS Dv x))) := own_kept OQ.out hg1 (own_ne_iter OQ.out RQ.out)
            have M1 : Hid (MapAt w1 mv Dv) := MQ.out.kept hg1 (fun b e h => by have := hbv.out b e; have := hsz.out; have := Option.some.inj h; omega)
            have G1 : Hid (w.grownBy w1 none) := GQ.out.andThen hg1 (fun j hj => by cases hj; exact .inl hsz.out)
            have R1 : Hid (RangesAt w1 mr wa.heap.size Dr (fun z => lr z && !z.sameKey (.string x)) cnt1) := hrg1
            have C1 : Hid (Collected Dr (fun z => lr z && !z.sameKey (.string x)) (us ++ [x])) := CQ.out.step hlx hat
            have HL : Hid (cnt1 < cn) := hlt1
            have hbase : Hid (w.heap.size ≤ w1.heap.size) := G1.out.size
            obtain ⟨b1, e1⟩ : ∃ b, hasS Dv x = b := ⟨_, rfl⟩
            obtain ⟨v1, f1⟩ : ∃ v, val Dv x = v := ⟨_, rfl⟩
            have E1 : Hid (hasS Dv x = b1) := e1
            have F1 : Hid (val Dv x = v1) := f1
            have hln : (us ++ [x]).length + cnt1 ≤ Maps.size Dr := by
              have := CSQ.out
              simp
              omega
            have LN : Hid ((us ++ [x]).length + cnt1 ≤ Maps.size Dr) := hln
            clear hg1 hrg1 hlt1 hlx hat e1 f1 hln
            cases b1 with
            | false =>
              go_wp2_with (first
                | (at_lookup; refine wpList_look rfl (.tmp 52) (.tmp 53) rfl mv Dv rfl M1.out x rfl hxl _ E1.out _ F1.out ?_)
                | (at_builtin; refine wpList_appS rfl (.tmp 59) (.tmp 61) rfl w.heap.size u5 _ rfl (OwnS.alloc O1.out _) w1.heap.size x rfl (cellS_new _ _) (by have := LQ.out; omega) (by have := hbase.out; simp; omega) ?_; intro v' w3 ho3 hg3; have O3 : Hid (OwnS w3 w.heap.size v' ((vs.filter (chg Dr Dv) ++ us.filter (fun x => !hasS Dv x)) ++ [x])) := ho3; have G3 : Hid ((w1.alloc (.cells #[.string (str x)] 9)).grownBy w3 u5.ownBlock) := hg3; clear ho3 hg3)
                | go_in)
              obtain ⟨hR3, hM3, hG3⟩ := keep27 O1.out R1.out M1.out G1.out hbr.out hbv.out G3.out
              go_roundw
              case rel => exact ⟨_, cnt1, us ++ [x], hR3, LN.out, C1.out, by rw [filter_snoc_true _ _ _ (by rw [E1.out]; rfl), ← List.append_assoc]; exact O3.out, hM3, hG3⟩
              case measure => rw [hR3.left_eq, RQ.out.left_eq]; exact HL.out
            | true =>
              go_wp2_with (first
                | (at_lookup; refine wpList_look rfl (.tmp 52) (.tmp 53) rfl mv Dv rfl M1.out x rfl hxl _ E1.out _ F1.out ?_)
                | go_in)
              go_roundw
              case rel => exact ⟨_, cnt1, us ++ [x], R1.out, LN.out, C1.out, by rw [filter_snoc_false _ _ _ (by rw [E1.out]; rfl)]; exact O1.out, M1.out, G1.out⟩
              case measure => rw [R1.out.left_eq, RQ.out.left_eq]; exact HL.out
      · go_wp2_with (first
          | (at_len; refine wpList_lenAt rfl (.tmp 42) rfl mr Dr rfl MM.out ?_)
          | (go_at_call 28; refine (sort_own _ w.heap.size u5 _ OW.out (by have := hfl.out; omega)).mono ?_; rintro e w' ⟨rfl, hO, hG⟩; have O3 : Hid (OwnS w' w.heap.size u5 ((vs.filter (chg Dr Dv)).mergeSort fun x y => decide (x ≤ y))) := hO; have G3 : Hid (wr.grownBy w' u5.ownBlock) := hG; clear hO hG)
          | go_in)
        go_ret
        have hok := one_ok (Dr := Dr) CO.out HZ.out (by rw [KK.out]; omega)
        exact ⟨_, _, rfl, O3.out, rising hok.1, (fun x => by rw [List.mem_mergeSort]; exact hok.2 x), GG.out.andThen G3.out (fun j hj => .inl (World.ownsRow.lt OW.out j hj).1)⟩
    · intro x c w1 cnt1 hxl hcl hlx hat hrg1 hlt hg1 hen
      have O1 : Hid (OwnS w1 w.heap.size u5 (vs.filter (chg Dr Dv))) := own_kept OW.out hg1 (own_ne_iter OW.out RG.out)
      have M1 : Hid (MapAt w1 mr Dr) := MM.out.kept hg1 (fun b e h => by have := hbr.out b e; have := Option.some.inj h; omega)
      have G1 : Hid (w.grownBy w1 none) := GG.out.andThen hg1 (fun j hj => by cases hj; exact .inl (Nat.le_refl _))
      have R1 : Hid (RangesAt w1 mv w.heap.size Dv (fun z => left z && !z.sameKey (.string x)) cnt1) := hrg1
      have C1 : Hid (Collected Dv (fun z => left z && !z.sameKey (.string x)) (vs ++ [x])) := CO.out.step hlx hat
      have HL : Hid (cnt1 < cnt) := hlt
      have hbase : Hid (w.heap.size ≤ w1.heap.size) := G1.out.size
      obtain ⟨b1, e1⟩ : ∃ b, hasS Dr x = b := ⟨_, rfl⟩
      obtain ⟨v1, f1⟩ : ∃ v, val Dr x = v := ⟨_, rfl⟩
      have hch := chg_at (val_at hat) e1 f1
      obtain ⟨d, hd⟩ : ∃ d, (v1 == c) = d := ⟨_, rfl⟩
      have hne : ((str v1).toList == (str c).toList) = d := by
        rw [ByteArray.toList_eq, ByteArray.toList_eq, str_list, str_list]
        exact hd
      have hd' : (v1 != c) = !d := by rw [← hd]; rfl
      rw [hd'] at hch
      have E1 : Hid (hasS Dr x = b1) := e1
      have F1 : Hid (val Dr x = v1) := f1
      have CH : Hid (chg Dr Dv x = (!b1 || !d)) := hch
      have hln : (vs ++ [x]).length + cnt1 ≤ Maps.size Dv := by
        have := CS.out
        simp
        omega
      have LN : Hid ((vs ++ [x]).length + cnt1 ≤ Maps.size Dv) := hln
      clear hg1 hrg1 hlt hlx hat hch hd hd' e1 f1 hln
      cases b1 with
      | false =>
        go_wp2_with (first
          | (at_lookup; refine wpList_look rfl (.tmp 22) (.tmp 23) rfl mr Dr rfl M1.out x rfl hxl _ E1.out _ F1.out ?_)
          | (at_builtin; refine wpList_appS rfl (.tmp 37) (.tmp 39) rfl w.heap.size u5 _ rfl (OwnS.alloc O1.out _) w1.heap.size x rfl (cellS_new _ _) (by have := hfl.out; omega) (by have := hbase.out; simp; omega) ?_; intro v' w3 ho3 hg3; have O3 : Hid (OwnS w3 w.heap.size v' (vs.filter (chg Dr Dv) ++ [x])) := ho3; have G3 : Hid ((w1.alloc (.cells #[.string (str x)] 9)).grownBy w3 u5.ownBlock) := hg3; clear ho3 hg3)
          | go_in)
        obtain ⟨hR3, hM3, hG3⟩ := keep27 O1.out R1.out M1.out G1.out hbv.out hbr.out G3.out
        go_roundw
        case rel => exact ⟨_, cnt1, vs ++ [x], hR3, LN.out, C1.out, by rw [filter_snoc_true _ _ _ CH.out]; exact O3.out, by rw [filter_snoc_false _ _ _ E1.out, KK.out], hM3, hG3⟩
        case measure => rw [hR3.left_eq, RG.out.left_eq]; exact HL.out
      | true =>
        have K1 : Hid ((((vs ++ [x]).filter (hasS Dr)).length : Int) = (kk : Int) + 1) := by
          show (((vs ++ [x]).filter (hasS Dr)).length : Int) = (kk : Int) + 1
          rw [filter_snoc_true _ _ _ E1.out, List.length_append, KK.out]
          simp
        cases d with
        | false =>
          go_wp2_with (first
            | (at_lookup; refine wpList_look rfl (.tmp 22) (.tmp 23) rfl mr Dr rfl M1.out x rfl hxl _ E1.out _ F1.out ?_)
            | (at_builtin; refine wpList_appS rfl (.tmp 37) (.tmp 39) rfl w.heap.size u5 _ rfl (OwnS.alloc O1.out _) w1.heap.size x rfl (cellS_new _ _) (by have := hfl.out; omega) (by have := hbase.out; simp; omega) ?_; intro v' w3 ho3 hg3; have O3 : Hid (OwnS w3 w.heap.size v' (vs.filter (chg Dr Dv) ++ [x])) := ho3; have G3 : Hid ((w1.alloc (.cells #[.string (str x)] 9)).grownBy w3 u5.ownBlock) := hg3; clear ho3 hg3)
            | go_in)
          obtain ⟨hR3, hM3, hG3⟩ := keep27 O1.out R1.out M1.out G1.out hbv.out hbr.out G3.out
          go_roundw
          case rel => exact ⟨_, cnt1, vs ++ [x], hR3, LN.out, C1.out, by rw [filter_snoc_true _ _ _ CH.out]; exact O3.out, by rw [K1.out], hM3, hG3⟩
          case measure => rw [hR3.left_eq, RG.out.left_eq]; exact HL.out
        | true =>
          go_wp2_with (first
            | (at_lookup; refine wpList_look rfl (.tmp 22) (.tmp 23) rfl mr Dr rfl M1.out x rfl hxl _ E1.out _ F1.out ?_)
            | go_in)
          go_roundw
          case rel => exact ⟨_, cnt1, vs ++ [x], R1.out, LN.out, C1.out, by rw [filter_snoc_false _ _ _ CH.out]; exact O1.out, by rw [K1.out], M1.out, G1.out⟩
          case measure => rw [R1.out.left_eq, RG.out.left_eq]; exact HL.out

theorem changed21 (mr mv : Value) (Dr Dv : DataW Unit) (w : World) (hr : MapAt w mr Dr) (hv : MapAt w mv Dv) :
    Calls Try.prog 21 #[mr, mv] w fun e w' => ∃ (v : Value) (ts : List (List UInt8)), e = .returned v ∧ OwnS w' w.heap.size v ts ∧ ts.Pairwise (fun a b => a < b) ∧ (∀ x, x ∈ ts ↔ chg Dr Dv x = true) ∧ w.grownBy w' none := by
  have HC := changed27 mr mv Dr Dv w hr hv
  clear hr hv
  go_enter Try.func21, Try.ntmps21
  go_wp2_with (go_at_call 27; refine HC.mono ?_; rintro e w' ⟨v, ts, rfl, h⟩; have HH : Hid (_ ∧ _) := h; clear h)
  go_ret
  exact ⟨_, _, rfl, HH.out⟩
end Go.Proofs.Qxb6600432a.Chg
