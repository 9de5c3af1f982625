/-
  zzCloneBools, zzEncodeBody: their contracts.
-/
import Derived.Test.Qxb6600432aTopA
import Derived.Test.Qxb6600432aEncPlain
namespace Go.Proofs.Qxb6600432a.Enc
open Go.RowKit
open Go.Proofs.Qxb6600432a.Plain Go.Proofs.Qxb6600432a.Mem Go.Proofs.Qxb6600432a.Base Go.Proofs.Qxb6600432a.Quoted Go.Proofs.Qxb6600432a.Top
set_option linter.unusedVariables false
set_option linter.unusedSimpArgs false

theorem info4 : (Try.prog.info? 4).map (fun i => (i.zero, i.size, i.bytes)) = some (some (.bool false), 1, 1) := by kernel_rfl

def RdB (w : World) (ao : Option Addr) (l : List Bool) : Prop := ∀ j, j < l.length → ∃ b off, ao = some ⟨b, off, none⟩ ∧ w.cell? ⟨b, off + j, none⟩ = some (.bool (l.getD j false))
theorem RdB.grown {w w' : World} {ao : Option Addr} {l : List Bool} (h : RdB w ao l) (g : w.grownBy w' none) : RdB w' ao l := by
  intro j hj
  obtain ⟨b, off, e, hc⟩ := h j hj
  exact ⟨b, off, e, g.cell hc (by simp)⟩

def OwnB (w : World) (base : Nat) (v : Value) (l : List Bool) : Prop := w.ownsRow base 4 1 v l.length (l.map Value.bool)
theorem OwnB.cell {w : World} {base g n cap : Nat} {l : List Bool} (hn : l.length = n) (h : OwnB w base (.slice (some ⟨g, 0, none⟩) n cap) l) (j : Nat) (hj : j < l.length) : w.cell? ⟨g, j, none⟩ = some (.bool (l.getD j false)) := by
  subst hn
  have := World.ownsRow.cellAt h j (by simpa using hj)
  rw [this]
  simp [hj]
theorem OwnB.frozen {w : World} {base g n cap : Nat} {l : List Bool} (hn : l.length = n) (h : OwnB w base (.slice (some ⟨g, 0, none⟩) n cap) l) (j : Nat) : w.frozen? ⟨g, j, none⟩ = false := by
  subst hn
  exact World.ownsRow.frozenAt h j
theorem ownB_store {w : World} {base g n cap : Nat} {l : List Bool} (hn : l.length = n) (h : OwnB w base (.slice (some ⟨g, 0, none⟩) n cap) l) (k : Nat) (x : Bool) :
    OwnB (w.setCell ⟨g, k, none⟩ (.bool x)) base (.slice (some ⟨g, 0, none⟩) n cap) (l.set k x) ∧ w.grownBy (w.setCell ⟨g, k, none⟩ (.bool x)) (some g) := by
  subst hn
  obtain ⟨h1, h2⟩ := World.ownsRow.stored h k (.bool x)
  refine ⟨?_, h2⟩
  unfold OwnB
  rw [List.length_set]
  have e : (l.set k x).map Value.bool = (l.map Value.bool).set k (.bool x) := by simp [List.map_set]
  rw [e]
  exact h1

theorem cloneB_nil (w : World) :
    Calls Try.prog 11 #[.slice none 0 0] w fun e w' => e = .returned (.slice none 0 0) ∧ w' = w := by
  have hn := fun (w : World) (a : Option Addr) (n c n2 c2 : Nat) => Lib.run_eql_slice_nil (P := Try.prog) w _ _ a n c n2 c2 Try.underlying23
  go_enter Try.func11, Try.ntmps11
  go_wp2
  go_ret
  exact ⟨rfl, rfl⟩

set_option maxHeartbeats 400000 in
theorem cloneB_some (x : Addr) (cap : Nat) (l : List Bool) (w : World) (hrd : RdB w (some x) l) (hlen : l.length ≤ 1099511627776) :
    Calls Try.prog 11 #[.slice (some x) l.length cap] w fun e w' => ∃ a c, e = .returned (.slice a l.length c) ∧ RdB w' a l ∧ w.grownBy w' none := by
  have hn := fun (w : World) (a : Option Addr) (n c n2 c2 : Nat) => Lib.run_eql_slice_nil (P := Try.prog) w _ _ a n c n2 c2 Try.underlying23
  obtain ⟨i0, hi, hz0, hz1, hz2⟩ := info_parts info4
  go_enter Try.func11, Try.ntmps11
  go_wp2_with (first | (at_make; refine wpList_make_full _ rfl _ _ 23 rfl w.heap.size 4 i0 (.bool false) 1 Try.underlying23 hi hz0 hz1 _ _ _ _ l.length rfl rfl rfl rfl (by rw [hz2]; omega) (by unfold maxLen; omega) (Nat.le_refl _) ?_))
  intro w1 hown1 hgrow1
  have ho : OwnB w1 w.heap.size (.slice (some ⟨w.heap.size, 0, none⟩) l.length l.length) (List.replicate l.length false) := by
    unfold OwnB
    rw [List.length_replicate]
    have e : (List.replicate l.length false).map Value.bool = (madeCells #[Value.bool false] l.length).toList := by
      rw [toList_madeCells_one]
      simp
    rw [e]
    exact hown1
  have hsz1 : w.heap.size < w1.heap.size := (World.ownsRow.lt ho w.heap.size rfl).2
  clear hown1 hi hz0 hz1 hz2
  go_wp2
  go_loopw [4] (fun iv wr => ∃ k : Nat, k ≤ l.length ∧ iv = .int .i64 k ∧ OwnB wr w.heap.size (.slice (some ⟨w.heap.size, 0, none⟩) l.length l.length) (l.take k ++ List.replicate (l.length - k) false) ∧ w.grownBy wr none) (fun iv _ => l.length - (intOf iv).toNat)
  case atStart => exact ⟨0, by omega, rfl, by simpa using ho, hgrow1⟩
  case round =>
    obtain ⟨k, hk, rfl, hown, hgr⟩ := hrel
    have hln : (l.take k ++ List.replicate (l.length - k) false).length = l.length := by simp; omega
    by_cases hlt : k < l.length
    · obtain ⟨b, off, e, hc⟩ := hrd k hlt
      cases e
      have hcx : wr.cell? ⟨b, off + k, none⟩ = some (.bool (l.getD k false)) := hgr.cell hc (by simp)
      obtain ⟨x, hx⟩ : ∃ x, l.getD k false = x := ⟨_, rfl⟩
      rw [hx] at hcx
      have hfr : wr.frozen? ⟨w.heap.size, k, none⟩ = false := hown.frozen hln k
      have hco : wr.cell? ⟨w.heap.size, k, none⟩ = some (.bool false) := by
        rw [hown.cell hln k (by omega)]
        have e1 : (l.take k).length = k := by simp; omega
        rw [List.getD, List.getElem?_append_right (by omega), e1, Nat.sub_self, List.getElem?_replicate, if_pos (by omega)]
        rfl
      obtain ⟨s1, s2⟩ := ownB_store hln hown k x
      have HS : Hid (OwnB (wr.setCell ⟨w.heap.size, k, none⟩ (.bool x)) w.heap.size (.slice (some ⟨w.heap.size, 0, none⟩) l.length l.length) (l.take (k + 1) ++ List.replicate (l.length - (k + 1)) false)) := by
        have e : (l.take k ++ List.replicate (l.length - k) false).set k x = l.take (k + 1) ++ List.replicate (l.length - (k + 1)) false := by
          rw [List.set_append_right _ _ (by simp; omega)]
          have e1 : (l.take k).length = k := by simp; omega
          rw [e1, Nat.sub_self]
          obtain ⟨m, hm⟩ : ∃ m, l.length - k = m + 1 := ⟨l.length - k - 1, by omega⟩
          rw [hm, show l.length - (k + 1) = m by omega, List.replicate_succ, List.set_cons_zero, List.take_succ_eq_append_getElem hlt]
          have e2 : l[k] = x := by simpa [hlt] using hx
          rw [e2]
          simp
        rw [e] at s1
        exact s1
      have HG : Hid (w.grownBy (wr.setCell ⟨w.heap.size, k, none⟩ (.bool x)) none) := ⟨s2.os.trans hgr.os, s2.tape.trans hgr.tape, s2.output.trans hgr.output, Nat.le_trans hgr.size s2.size, fun j hj _ => (s2.block j (Nat.lt_of_lt_of_le hj hgr.size) (by simp; omega)).trans (hgr.block j hj (by simp))⟩
      clear hx s1 s2 hown hgr hrd hc ho hgrow1 hln
      go_wp2
      go_roundw
      case rel => exact ⟨k + 1, by omega, by go_num, HS.out, HG.out⟩
      case measure => simp [intOf]; omega
    · have HO : Hid (OwnB wr w.heap.size (.slice (some ⟨w.heap.size, 0, none⟩) l.length l.length) l) := by
        rw [List.take_of_length_le (by omega), show l.length - k = 0 by omega] at hown
        have h2 := hown
        rw [List.replicate_zero, List.append_nil] at h2
        exact h2
      have HG : Hid (w.grownBy wr none) := hgr
      clear hown hgr hln
      go_wp2
      go_ret
      exact ⟨_, _, rfl, fun j hj => ⟨w.heap.size, 0, rfl, by rw [Nat.zero_add]; exact HO.out.cell rfl j hj⟩, HG.out⟩

theorem cloneB_any (ao : Option Addr) (cap n : Nat) (l : List Bool) (w : World) (hn : l.length = n) (hrd : RdB w ao l) (hnil : ao = none → cap = 0) (hlen : n ≤ 1099511627776) :
    Calls Try.prog 11 #[.slice ao n cap] w fun e w' => ∃ a c, e = .returned (.slice a n c) ∧ RdB w' a l ∧ w.grownBy w' none := by
  subst hn
  cases ao with
  | none =>
    obtain rfl := hnil rfl
    have hl : l = [] := by
      cases l with
      | nil => rfl
      | cons c l => obtain ⟨b, off, e, _⟩ := hrd 0 (by simp); cases e
    subst hl
    refine (cloneB_nil w).mono ?_
    rintro e w' ⟨rfl, rfl⟩
    exact ⟨_, _, rfl, fun j hj => by simp at hj, World.grownBy.refl _ _⟩
  | some x => exact cloneB_some x cap l w hrd hlen

theorem drop_cons' (l : List Int) (k : Nat) (h : k < l.length) : l.drop k = l.getD k 0 :: l.drop (k + 1) := drop_cons l k h

set_option maxHeartbeats 1000000 in
theorem encode_any (ca ea : Option Addr) (n ccap en ecap : Nat) (cs : List Int) (es : List Bool) (w : World) (hn : cs.length = n) (he : es.length = en) (hc : Rd w ca cs) (hb : RdB w ea es) (hlen : n ≤ 1099511627) (helen : en ≤ 1099511627) :
    Calls Try.prog 12 #[.slice ca n ccap, .slice ea en ecap] w fun e w' => ∃ g cap, e = .returned (.tuple #[.slice (some ⟨g, 0, none⟩) (encF es 0 cs).length cap, .bool (plF es 0 cs)]) ∧ Own w' w.heap.size (.slice (some ⟨g, 0, none⟩) (encF es 0 cs).length cap) (encF es 0 cs) ∧ w.grownBy w' none := by
  obtain ⟨B, hB⟩ : ∃ B, encF es 0 cs = B := ⟨_, rfl⟩
  obtain ⟨PL, hP⟩ : ∃ PL, plF es 0 cs = PL := ⟨_, rfl⟩
  rw [hB, hP]
  have HB : Hid (encF es 0 cs = B) := hB
  have HP : Hid (plF es 0 cs = PL) := hP
  have HN : Hid (cs.length = n) := hn
  have HEN : Hid (es.length = en) := he
  have HC : Hid (Rd w ca cs) := hc
  have HE : Hid (RdB w ea es) := hb
  obtain ⟨i0, hi, hz0, hz1, hz2⟩ := info_parts info5
  clear hB hP hn he hc hb
  go_enter Try.func12, Try.ntmps12
  go_wp2_with (first | (at_make; refine wpList_make_own _ rfl _ _ 22 rfl w.heap.size 5 i0 (.int .u8 0) 1 Try.underlying22 hi hz0 hz1 _ _ _ (2 * n) rfl rfl (by omega) (by rw [hz2]; omega) (by unfold maxLen; omega) (Nat.le_refl _) ?_))
  intro w1 hown1 hgrow1
  have ho : Own w1 w.heap.size (.slice (some ⟨w.heap.size, 0, none⟩) 0 (2 * n)) [] := hown1
  have HO : Hid (Own w1 w.heap.size (.slice (some ⟨w.heap.size, 0, none⟩) 0 (2 * n)) []) := ho
  have HG1 : Hid (w.grownBy w1 none) := hgrow1
  clear hown1 ho hgrow1 hi hz0 hz1 hz2
  go_wp2
  go_loopw [6, 7, 8] (fun bv pv iv wr => ∃ (k : Nat) (bd : List Int) (p : Bool), k ≤ n ∧ iv = .int .i64 k ∧ pv = .bool p ∧ bv = .slice (some ⟨w.heap.size, 0, none⟩) bd.length (2 * n) ∧ Own wr w.heap.size bv bd ∧ w.grownBy wr none ∧ bd.length ≤ 2 * k ∧ bd ++ encF es k (cs.drop k) = B ∧ (p && plF es k (cs.drop k)) = PL) (fun _ _ iv _ => n - (intOf iv).toNat)
  case atStart => exact ⟨0, [], true, by omega, rfl, rfl, rfl, HO.out, HG1.out, by simp, by simpa using HB.out, by simpa using HP.out⟩
  case round =>
    obtain ⟨k, bd, p, hk, rfl, rfl, rfl, hown, hgr, hbl, hEq, hPq⟩ := hrel
    have HOW : Hid (Own wr w.heap.size (.slice (some ⟨w.heap.size, 0, none⟩) bd.length (2 * n)) bd) := hown
    have HG : Hid (w.grownBy wr none) := hgr
    have HEq : Hid (bd ++ encF es k (cs.drop k) = B) := hEq
    have HPq : Hid ((p && plF es k (cs.drop k)) = PL) := hPq
    have hsz : w.heap.size < wr.heap.size := (hown.lt w.heap.size rfl).2
    clear hown hgr hEq hPq HO HG1
    by_cases hlt : k < n
    · obtain ⟨b, off, rfl, gc⟩ := (Rd.grown HC.out HG.out) k (by rw [HN.out]; exact hlt)
      obtain ⟨c, hcx⟩ : ∃ c, cs.getD k 0 = c := ⟨_, rfl⟩
      rw [hcx] at gc
      have HD : Hid (cs.drop k = c :: cs.drop (k + 1)) := by show _ = _; rw [← hcx]; exact drop_cons cs k (by rw [HN.out]; exact hlt)
      clear hcx
      have hge : k < en → ∃ b2 off2, ea = some ⟨b2, off2, none⟩ ∧ wr.cell? ⟨b2, off2 + k, none⟩ = some (.bool (es.getD k false)) := fun h => (RdB.grown HE.out HG.out) k (by rw [HEN.out]; exact h)
      have HGE : Hid (k < en → ∃ b2 off2, ea = some ⟨b2, off2, none⟩ ∧ wr.cell? ⟨b2, off2 + k, none⟩ = some (.bool (es.getD k false))) := hge
      clear hge
      have hfit : Hid (∀ (w' : World) (v' : Value) (t : List Int), t.length ≤ 2 → Own w' w.heap.size v' (bd ++ t) → Grew wr (.slice (some ⟨w.heap.size, 0, none⟩) bd.length (2 * n)) w' v' → v' = .slice (some ⟨w.heap.size, 0, none⟩) (bd ++ t).length (2 * n) ∧ w.grownBy w' none) := by
        intro w' v' t ht ho hg
        have hf := hg.fits (by simp [Value.ownBlock]) (by rw [ho.len]; simp [capOf]; omega)
        refine ⟨?_, ⟨hg.grown.os.trans HG.out.os, hg.grown.tape.trans HG.out.tape, hg.grown.output.trans HG.out.output, Nat.le_trans HG.out.size hg.size, fun j hj _ => (hg.grown.block j (by have := HG.out.size; omega) (by simp [Value.ownBlock]; omega)).trans (HG.out.block j hj (by simp))⟩⟩
        rcases ho.form with ⟨rfl, _⟩ | ⟨g, cp, rfl, _⟩
        · have := hf.1; simp [Value.ownBlock] at this
        · have h1 := hf.1
          have h2 := hf.2
          simp [Value.ownBlock] at h1
          simp [capOf] at h2
          rw [h1, h2]
      cases hesc : escd es k c with
      | true =>
        have HE2 : Hid (bd ++ ([92, c] ++ encF es (k + 1) (cs.drop (k + 1))) = B) := by
          show _ = _
          rw [← HEq.out, HD.out, encF, if_pos hesc]
        have HP2 : Hid ((false && plF es (k + 1) (cs.drop (k + 1))) = PL) := by
          show _ = _
          rw [← HPq.out, HD.out, plF, hesc]
          simp
        by_cases h34 : c = 34
        · subst h34
          clear hesc
          by_cases hke : k < en
          · obtain ⟨b2, off2, rfl, ge⟩ := HGE.out hke
            have hki : (k : Int) < (en : Int) := by omega
            cases hes : es.getD k false with
            | true =>
              rw [hes] at ge
              go_wp2_with (first | (at_builtin; refine wpList_app Try.underlying22 info5 rfl _ _ rfl w.heap.size _ bd rfl (Own.alloc HOW.out _) ⟨wr.heap.size, 0, none⟩ 2 2 [92, 34] rfl rfl (two_new _ _ _) (by simp; omega) (by simp; omega) ?_; intro v1 w2 hown2 hG2))
              all_goals
                obtain ⟨hv1, hg2⟩ := hfit.out w2 v1 [92, 34] (by simp) hown2 ((Grew.alloc _ _ _).trans hG2)
                have HO2 : Hid (Own w2 w.heap.size v1 (bd ++ [92, 34])) := hown2
                have HV1 : Hid (v1 = .slice (some ⟨w.heap.size, 0, none⟩) (bd ++ [92, 34]).length (2 * n)) := hv1
                have HG2 : Hid (w.grownBy w2 none) := hg2
                clear hv1 hg2 hown2 hG2
                go_roundw
                case rel => exact ⟨k + 1, bd ++ [92, 34], false, by omega, by go_num, rfl, HV1.out, HO2.out, HG2.out, by simp; omega, by rw [List.append_assoc]; exact HE2.out, HP2.out⟩
                case measure => simp [intOf]; omega
            | false =>
              rw [hes] at ge
              go_wp2_with (first | (at_builtin; refine wpList_app Try.underlying22 info5 rfl _ _ rfl w.heap.size _ bd rfl (Own.alloc HOW.out _) ⟨wr.heap.size, 0, none⟩ 2 2 [92, 34] rfl rfl (two_new _ _ _) (by simp; omega) (by simp; omega) ?_; intro v1 w2 hown2 hG2))
              all_goals
                obtain ⟨hv1, hg2⟩ := hfit.out w2 v1 [92, 34] (by simp) hown2 ((Grew.alloc _ _ _).trans hG2)
                have HO2 : Hid (Own w2 w.heap.size v1 (bd ++ [92, 34])) := hown2
                have HV1 : Hid (v1 = .slice (some ⟨w.heap.size, 0, none⟩) (bd ++ [92, 34]).length (2 * n)) := hv1
                have HG2 : Hid (w.grownBy w2 none) := hg2
                clear hv1 hg2 hown2 hG2
                go_roundw
                case rel => exact ⟨k + 1, bd ++ [92, 34], false, by omega, by go_num, rfl, HV1.out, HO2.out, HG2.out, by simp; omega, by rw [List.append_assoc]; exact HE2.out, HP2.out⟩
                case measure => simp [intOf]; omega
          · have hkd : decide ((k : Int) < (en : Int)) = false := decide_eq_false (by omega)
            go_wp2_with (first | (at_builtin; refine wpList_app Try.underlying22 info5 rfl _ _ rfl w.heap.size _ bd rfl (Own.alloc HOW.out _) ⟨wr.heap.size, 0, none⟩ 2 2 [92, 34] rfl rfl (two_new _ _ _) (by simp; omega) (by simp; omega) ?_; intro v1 w2 hown2 hG2))
            all_goals
              obtain ⟨hv1, hg2⟩ := hfit.out w2 v1 [92, 34] (by simp) hown2 ((Grew.alloc _ _ _).trans hG2)
              have HO2 : Hid (Own w2 w.heap.size v1 (bd ++ [92, 34])) := hown2
              have HV1 : Hid (v1 = .slice (some ⟨w.heap.size, 0, none⟩) (bd ++ [92, 34]).length (2 * n)) := hv1
              have HG2 : Hid (w.grownBy w2 none) := hg2
              clear hv1 hg2 hown2 hG2
              go_roundw
              case rel => exact ⟨k + 1, bd ++ [92, 34], false, by omega, by go_num, rfl, HV1.out, HO2.out, HG2.out, by simp; omega, by rw [List.append_assoc]; exact HE2.out, HP2.out⟩
              case measure => simp [intOf]; omega
        · have b34 : (c == 34) = false := by simpa using h34
          by_cases h92 : c = 92
          · subst h92
            clear hesc
            by_cases hke : k < en
            · obtain ⟨b2, off2, rfl, ge⟩ := HGE.out hke
              have hki : (k : Int) < (en : Int) := by omega
              cases hes : es.getD k false with
              | true =>
                rw [hes] at ge
                go_wp2_with (first | (at_builtin; refine wpList_app Try.underlying22 info5 rfl _ _ rfl w.heap.size _ bd rfl (Own.alloc HOW.out _) ⟨wr.heap.size, 0, none⟩ 2 2 [92, 92] rfl rfl (two_new _ _ _) (by simp; omega) (by simp; omega) ?_; intro v1 w2 hown2 hG2))
                all_goals
                  obtain ⟨hv1, hg2⟩ := hfit.out w2 v1 [92, 92] (by simp) hown2 ((Grew.alloc _ _ _).trans hG2)
                  have HO2 : Hid (Own w2 w.heap.size v1 (bd ++ [92, 92])) := hown2
                  have HV1 : Hid (v1 = .slice (some ⟨w.heap.size, 0, none⟩) (bd ++ [92, 92]).length (2 * n)) := hv1
                  have HG2 : Hid (w.grownBy w2 none) := hg2
                  clear hv1 hg2 hown2 hG2
                  go_roundw
                  case rel => exact ⟨k + 1, bd ++ [92, 92], false, by omega, by go_num, rfl, HV1.out, HO2.out, HG2.out, by simp; omega, by rw [List.append_assoc]; exact HE2.out, HP2.out⟩
                  case measure => simp [intOf]; omega
              | false =>
                rw [hes] at ge
                go_wp2_with (first | (at_builtin; refine wpList_app Try.underlying22 info5 rfl _ _ rfl w.heap.size _ bd rfl (Own.alloc HOW.out _) ⟨wr.heap.size, 0, none⟩ 2 2 [92, 92] rfl rfl (two_new _ _ _) (by simp; omega) (by simp; omega) ?_; intro v1 w2 hown2 hG2))
                all_goals
                  obtain ⟨hv1, hg2⟩ := hfit.out w2 v1 [92, 92] (by simp) hown2 ((Grew.alloc _ _ _).trans hG2)
                  have HO2 : Hid (Own w2 w.heap.size v1 (bd ++ [92, 92])) := hown2
                  have HV1 : Hid (v1 = .slice (some ⟨w.heap.size, 0, none⟩) (bd ++ [92, 92]).length (2 * n)) := hv1
                  have HG2 : Hid (w.grownBy w2 none) := hg2
                  clear hv1 hg2 hown2 hG2
                  go_roundw
                  case rel => exact ⟨k + 1, bd ++ [92, 92], false, by omega, by go_num, rfl, HV1.out, HO2.out, HG2.out, by simp; omega, by rw [List.append_assoc]; exact HE2.out, HP2.out⟩
                  case measure => simp [intOf]; omega
            · have hkd : decide ((k : Int) < (en : Int)) = false := decide_eq_false (by omega)
              go_wp2_with (first | (at_builtin; refine wpList_app Try.underlying22 info5 rfl _ _ rfl w.heap.size _ bd rfl (Own.alloc HOW.out _) ⟨wr.heap.size, 0, none⟩ 2 2 [92, 92] rfl rfl (two_new _ _ _) (by simp; omega) (by simp; omega) ?_; intro v1 w2 hown2 hG2))
              all_goals
                obtain ⟨hv1, hg2⟩ := hfit.out w2 v1 [92, 92] (by simp) hown2 ((Grew.alloc _ _ _).trans hG2)
                have HO2 : Hid (Own w2 w.heap.size v1 (bd ++ [92, 92])) := hown2
                have HV1 : Hid (v1 = .slice (some ⟨w.heap.size, 0, none⟩) (bd ++ [92, 92]).length (2 * n)) := hv1
                have HG2 : Hid (w.grownBy w2 none) := hg2
                clear hv1 hg2 hown2 hG2
                go_roundw
                case rel => exact ⟨k + 1, bd ++ [92, 92], false, by omega, by go_num, rfl, HV1.out, HO2.out, HG2.out, by simp; omega, by rw [List.append_assoc]; exact HE2.out, HP2.out⟩
                case measure => simp [intOf]; omega
          · have b92 : (c == 92) = false := by simpa using h92
            have hkes : k < es.length ∧ es.getD k false = true := by simpa [escd, h34, h92] using hesc
            have hke : k < en := by have := HEN.out; omega
            obtain ⟨b2, off2, rfl, ge⟩ := HGE.out hke
            have hki : (k : Int) < (en : Int) := by omega
            rw [hkes.2] at ge
            clear hesc hkes h34 h92
            go_wp2_with (first | (at_builtin; refine wpList_app Try.underlying22 info5 rfl _ _ rfl w.heap.size _ bd rfl (Own.alloc HOW.out _) ⟨wr.heap.size, 0, none⟩ 2 2 [92, c] rfl rfl (two_new _ _ _) (by simp; omega) (by simp; omega) ?_; intro v1 w2 hown2 hG2))
            all_goals
              obtain ⟨hv1, hg2⟩ := hfit.out w2 v1 [92, c] (by simp) hown2 ((Grew.alloc _ _ _).trans hG2)
              have HO2 : Hid (Own w2 w.heap.size v1 (bd ++ [92, c])) := hown2
              have HV1 : Hid (v1 = .slice (some ⟨w.heap.size, 0, none⟩) (bd ++ [92, c]).length (2 * n)) := hv1
              have HG2 : Hid (w.grownBy w2 none) := hg2
              clear hv1 hg2 hown2 hG2
              go_roundw
              case rel => exact ⟨k + 1, bd ++ [92, c], false, by omega, by go_num, rfl, HV1.out, HO2.out, HG2.out, by simp; omega, by rw [List.append_assoc]; exact HE2.out, HP2.out⟩
              case measure => simp [intOf]; omega
      | false =>
        have HE2 : Hid (bd ++ ([c] ++ encF es (k + 1) (cs.drop (k + 1))) = B) := by
          show _ = _
          rw [← HEq.out, HD.out, encF, if_neg (by simp [hesc])]
        have HP2 : Hid (((p && prin c) && plF es (k + 1) (cs.drop (k + 1))) = PL) := by
          show _ = _
          rw [← HPq.out, HD.out, plF, hesc]
          simp [Bool.and_assoc]
        obtain ⟨h34, h92⟩ := escd_no hesc
        have b34 : (c == 34) = false := by simpa using h34
        have b92 : (c == 92) = false := by simpa using h92
        have hnk : k < en → es.getD k false = false := by
          intro hke
          have := HEN.out
          have hkl : k < es.length := by omega
          simp only [escd, b34, b92, Bool.or_self, Bool.false_or, hkl, decide_true, Bool.true_and] at hesc
          exact hesc
        clear hesc h34 h92
        by_cases h32 : c < 32
        · have hpr : prin c = false := by simp [prin]; omega
          by_cases hke : k < en
          · obtain ⟨b2, off2, rfl, ge⟩ := HGE.out hke
            have hki : (k : Int) < (en : Int) := by omega
            rw [hnk hke] at ge
            clear hnk
            go_wp2_with (first | (at_builtin; refine wpList_app Try.underlying22 info5 rfl _ _ rfl w.heap.size _ bd rfl (Own.alloc HOW.out _) ⟨wr.heap.size, 0, none⟩ 1 1 [c] rfl rfl (one_new _ _) (by simp; omega) (by simp; omega) ?_; intro v1 w2 hown2 hG2))
            all_goals
              obtain ⟨hv1, hg2⟩ := hfit.out w2 v1 [c] (by simp) hown2 ((Grew.alloc _ _ _).trans hG2)
              have HO2 : Hid (Own w2 w.heap.size v1 (bd ++ [c])) := hown2
              have HV1 : Hid (v1 = .slice (some ⟨w.heap.size, 0, none⟩) (bd ++ [c]).length (2 * n)) := hv1
              have HG2 : Hid (w.grownBy w2 none) := hg2
              clear hv1 hg2 hown2 hG2
              go_roundw
              case rel => exact ⟨k + 1, bd ++ [c], _, by omega, by go_num, rfl, HV1.out, HO2.out, HG2.out, by simp; omega, by rw [List.append_assoc]; exact HE2.out, by rw [← HP2.out]; rw [hpr]; simp⟩
              case measure => simp [intOf]; omega
          · have hkd : decide ((k : Int) < (en : Int)) = false := decide_eq_false (by omega)
            clear hnk
            go_wp2_with (first | (at_builtin; refine wpList_app Try.underlying22 info5 rfl _ _ rfl w.heap.size _ bd rfl (Own.alloc HOW.out _) ⟨wr.heap.size, 0, none⟩ 1 1 [c] rfl rfl (one_new _ _) (by simp; omega) (by simp; omega) ?_; intro v1 w2 hown2 hG2))
            all_goals
              obtain ⟨hv1, hg2⟩ := hfit.out w2 v1 [c] (by simp) hown2 ((Grew.alloc _ _ _).trans hG2)
              have HO2 : Hid (Own w2 w.heap.size v1 (bd ++ [c])) := hown2
              have HV1 : Hid (v1 = .slice (some ⟨w.heap.size, 0, none⟩) (bd ++ [c]).length (2 * n)) := hv1
              have HG2 : Hid (w.grownBy w2 none) := hg2
              clear hv1 hg2 hown2 hG2
              go_roundw
              case rel => exact ⟨k + 1, bd ++ [c], _, by omega, by go_num, rfl, HV1.out, HO2.out, HG2.out, by simp; omega, by rw [List.append_assoc]; exact HE2.out, by rw [← HP2.out]; rw [hpr]; simp⟩
              case measure => simp [intOf]; omega
        · by_cases h126 : 126 < c
          · have hpr : prin c = false := by simp [prin]; omega
            by_cases hke : k < en
            · obtain ⟨b2, off2, rfl, ge⟩ := HGE.out hke
              have hki : (k : Int) < (en : Int) := by omega
              rw [hnk hke] at ge
              clear hnk
              go_wp2_with (first | (at_builtin; refine wpList_app Try.underlying22 info5 rfl _ _ rfl w.heap.size _ bd rfl (Own.alloc HOW.out _) ⟨wr.heap.size, 0, none⟩ 1 1 [c] rfl rfl (one_new _ _) (by simp; omega) (by simp; omega) ?_; intro v1 w2 hown2 hG2))
              all_goals
                obtain ⟨hv1, hg2⟩ := hfit.out w2 v1 [c] (by simp) hown2 ((Grew.alloc _ _ _).trans hG2)
                have HO2 : Hid (Own w2 w.heap.size v1 (bd ++ [c])) := hown2
                have HV1 : Hid (v1 = .slice (some ⟨w.heap.size, 0, none⟩) (bd ++ [c]).length (2 * n)) := hv1
                have HG2 : Hid (w.grownBy w2 none) := hg2
                clear hv1 hg2 hown2 hG2
                go_roundw
                case rel => exact ⟨k + 1, bd ++ [c], _, by omega, by go_num, rfl, HV1.out, HO2.out, HG2.out, by simp; omega, by rw [List.append_assoc]; exact HE2.out, by rw [← HP2.out]; rw [hpr]; simp⟩
                case measure => simp [intOf]; omega
            · have hkd : decide ((k : Int) < (en : Int)) = false := decide_eq_false (by omega)
              clear hnk
              go_wp2_with (first | (at_builtin; refine wpList_app Try.underlying22 info5 rfl _ _ rfl w.heap.size _ bd rfl (Own.alloc HOW.out _) ⟨wr.heap.size, 0, none⟩ 1 1 [c] rfl rfl (one_new _ _) (by simp; omega) (by simp; omega) ?_; intro v1 w2 hown2 hG2))
              all_goals
                obtain ⟨hv1, hg2⟩ := hfit.out w2 v1 [c] (by simp) hown2 ((Grew.alloc _ _ _).trans hG2)
                have HO2 : Hid (Own w2 w.heap.size v1 (bd ++ [c])) := hown2
                have HV1 : Hid (v1 = .slice (some ⟨w.heap.size, 0, none⟩) (bd ++ [c]).length (2 * n)) := hv1
                have HG2 : Hid (w.grownBy w2 none) := hg2
                clear hv1 hg2 hown2 hG2
                go_roundw
                case rel => exact ⟨k + 1, bd ++ [c], _, by omega, by go_num, rfl, HV1.out, HO2.out, HG2.out, by simp; omega, by rw [List.append_assoc]; exact HE2.out, by rw [← HP2.out]; rw [hpr]; simp⟩
                case measure => simp [intOf]; omega
          · have hpr : prin c = true := by simp [prin]; omega
            by_cases hke : k < en
            · obtain ⟨b2, off2, rfl, ge⟩ := HGE.out hke
              have hki : (k : Int) < (en : Int) := by omega
              rw [hnk hke] at ge
              clear hnk
              go_wp2_with (first | (at_builtin; refine wpList_app Try.underlying22 info5 rfl _ _ rfl w.heap.size _ bd rfl (Own.alloc HOW.out _) ⟨wr.heap.size, 0, none⟩ 1 1 [c] rfl rfl (one_new _ _) (by simp; omega) (by simp; omega) ?_; intro v1 w2 hown2 hG2))
              all_goals
                obtain ⟨hv1, hg2⟩ := hfit.out w2 v1 [c] (by simp) hown2 ((Grew.alloc _ _ _).trans hG2)
                have HO2 : Hid (Own w2 w.heap.size v1 (bd ++ [c])) := hown2
                have HV1 : Hid (v1 = .slice (some ⟨w.heap.size, 0, none⟩) (bd ++ [c]).length (2 * n)) := hv1
                have HG2 : Hid (w.grownBy w2 none) := hg2
                clear hv1 hg2 hown2 hG2
                go_roundw
                case rel => exact ⟨k + 1, bd ++ [c], _, by omega, by go_num, rfl, HV1.out, HO2.out, HG2.out, by simp; omega, by rw [List.append_assoc]; exact HE2.out, by rw [← HP2.out]; rw [hpr]; simp⟩
                case measure => simp [intOf]; omega
            · have hkd : decide ((k : Int) < (en : Int)) = false := decide_eq_false (by omega)
              clear hnk
              go_wp2_with (first | (at_builtin; refine wpList_app Try.underlying22 info5 rfl _ _ rfl w.heap.size _ bd rfl (Own.alloc HOW.out _) ⟨wr.heap.size, 0, none⟩ 1 1 [c] rfl rfl (one_new _ _) (by simp; omega) (by simp; omega) ?_; intro v1 w2 hown2 hG2))
              all_goals
                obtain ⟨hv1, hg2⟩ := hfit.out w2 v1 [c] (by simp) hown2 ((Grew.alloc _ _ _).trans hG2)
                have HO2 : Hid (Own w2 w.heap.size v1 (bd ++ [c])) := hown2
                have HV1 : Hid (v1 = .slice (some ⟨w.heap.size, 0, none⟩) (bd ++ [c]).length (2 * n)) := hv1
                have HG2 : Hid (w.grownBy w2 none) := hg2
                clear hv1 hg2 hown2 hG2
                go_roundw
                case rel => exact ⟨k + 1, bd ++ [c], _, by omega, by go_num, rfl, HV1.out, HO2.out, HG2.out, by simp; omega, by rw [List.append_assoc]; exact HE2.out, by rw [← HP2.out]; rw [hpr]; simp⟩
                case measure => simp [intOf]; omega
    · have hkn : k = n := by omega
      have HF : Hid (bd = B ∧ p = PL) := by
        have h1 := HEq.out
        have h2 := HPq.out
        rw [List.drop_eq_nil_of_le (by rw [HN.out]; omega)] at h1 h2
        simp [encF] at h1
        simp [plF] at h2
        exact ⟨h1, h2⟩
      go_wp2
      go_ret2
      obtain ⟨rfl, rfl⟩ := HF.out
      exact ⟨_, _, rfl, HOW.out, HG.out⟩
end Go.Proofs.Qxb6600432a.Enc
