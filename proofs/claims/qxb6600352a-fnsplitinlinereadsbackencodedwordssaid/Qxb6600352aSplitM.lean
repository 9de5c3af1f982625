/-
  zzSplitModel computes 'splitF' too.
-/
import Derived.Test.Qxb6600352aSplit
import Derived.Test.Qxb6600352aRun
namespace Go.Proofs.Qxb6600352a.Split
open Go.RowKit
open Go.Proofs.Qxb6600352a.Plain Go.Proofs.Qxb6600352a.Mem Go.Proofs.Qxb6600352a.Base Go.Proofs.Qxb6600352a.Leaf Go.Proofs.Qxb6600352a.Quoted Go.Proofs.Qxb6600352a.Word Go.Proofs.Qxb6600352a.Grow
set_option linter.unusedVariables false
set_option linter.unusedSimpArgs false

/-- The slice of slices' cells lead to words that lie apart from it. -/
def WordsRd (w : World) (wv : Value) (xs : List Value) (ws : List (List Int)) : Prop :=
  xs.length = ws.length ∧ ∀ k, k < ws.length → ∃ ao c, xs[k]? = some (.slice ao (ws.getD k []).length c) ∧ ∀ j, j < (ws.getD k []).length → ∃ b off, ao = some ⟨b, off, none⟩ ∧ b < w.heap.size ∧ wv.ownBlock ≠ some b ∧ w.cell? ⟨b, off + j, none⟩ = some (.int .u8 ((ws.getD k []).getD j 0))

theorem WordsRd.nil (w : World) (v : Value) : WordsRd w v [] [] := ⟨rfl, fun k hk => by simp at hk⟩
theorem WordsRd.grown {w w' : World} {v : Value} {xs : List Value} {ws : List (List Int)} (h : WordsRd w v xs ws) (g : w.grownBy w' none) : WordsRd w' v xs ws := by
  refine ⟨h.1, fun k hk => ?_⟩
  obtain ⟨ao, c, e, hj⟩ := h.2 k hk
  refine ⟨ao, c, e, fun j hjj => ?_⟩
  obtain ⟨b, off, e2, h1, h2, h3⟩ := hj j hjj
  exact ⟨b, off, e2, Nat.lt_of_lt_of_le h1 g.size, h2, g.cell h3 (by simp)⟩
theorem WordsRd.append {w w' : World} {v v' : Value} {xs : List Value} {ws : List (List Int)} (h : WordsRd w v xs ws) (g : GrewV w v w' v') : WordsRd w' v' xs ws := by
  refine ⟨h.1, fun k hk => ?_⟩
  obtain ⟨ao, c, e, hj⟩ := h.2 k hk
  refine ⟨ao, c, e, fun j hjj => ?_⟩
  obtain ⟨b, off, e2, h1, h2, h3⟩ := hj j hjj
  refine ⟨b, off, e2, Nat.lt_of_lt_of_le h1 g.size, ?_, (g.cell (a := ⟨b, off + j, none⟩) h1 h2).trans h3⟩
  rcases g.lies with e3 | e3
  · rw [e3]; exact h2
  · intro e4; have := e3 b e4; omega
/-- One word more. -/
theorem WordsRd.snoc {w : World} {v u : Value} {xs : List Value} {ws : List (List Int)} {t : List Int} {base : Nat} (h : WordsRd w v xs ws) (hu : Own w base u t) (hv : ∀ g, v.ownBlock = some g → g < base) : WordsRd w v (xs ++ [u]) (ws ++ [t]) := by
  refine ⟨by simp [h.1], fun k hk => ?_⟩
  by_cases hk2 : k < ws.length
  · have eg : (ws ++ [t]).getD k [] = ws.getD k [] := by simp [List.getD, List.getElem?_append_left hk2]
    obtain ⟨ao, c, e, hj⟩ := h.2 k hk2
    rw [eg]
    exact ⟨ao, c, by rw [List.getElem?_append_left (by rw [h.1]; exact hk2)]; exact e, hj⟩
  · have hk3 : k = ws.length := by simp at hk; omega
    subst hk3
    have eg : (ws ++ [t]).getD ws.length [] = t := by simp [List.getD]
    rw [eg]
    have ex : (xs ++ [u])[ws.length]? = some u := by rw [← h.1]; simp
    rw [ex]
    rcases hu.form with ⟨rfl, rfl⟩ | ⟨g, cap, rfl, hb, hlt, _⟩
    · exact ⟨none, 0, rfl, fun j hj => by simp at hj⟩
    · refine ⟨_, cap, rfl, fun j hj => ⟨g, 0, rfl, hlt, ?_, by rw [Nat.zero_add]; exact hu.cell j hj⟩⟩
      intro e
      have := hv g e
      omega
theorem WordsRd.rdW {w : World} {v : Value} {xs : List Value} {ws : List (List Int)} {base : Nat} (h : WordsRd w v xs ws) (hv : OwnV w base v xs) : ∃ ao c, v = .slice ao ws.length c ∧ RdW w ao ws := by
  rcases hv.form with ⟨rfl, rfl⟩ | ⟨g, c, rfl, _⟩
  · have : ws = [] := List.eq_nil_of_length_eq_zero (by rw [← h.1]; rfl)
    subst this
    exact ⟨none, 0, rfl, fun k hk => by simp at hk⟩
  · refine ⟨some ⟨g, 0, none⟩, c, by rw [h.1], ?_⟩
    intro k hk
    obtain ⟨ao, c2, e, hj⟩ := h.2 k hk
    refine ⟨g, 0, ao, c2, rfl, ?_, ?_⟩
    · rw [Nat.zero_add, hv.cell k (by rw [h.1]; exact hk)]; exact e
    · intro j hjj
      obtain ⟨b, off, e2, _, _, h3⟩ := hj j hjj
      exact ⟨b, off, e2, h3⟩

theorem own_oneCell {w : World} {base : Nat} {v : Value} {l : List Int} (h : Own w base v l) : v.oneCell' = true := by
  rcases h.form with ⟨rfl, _⟩ | ⟨g, cap, rfl, _⟩ <;> rfl

theorem aw_is_run (s : List Int) (i : Nat) : aw s [] i = run s 0 0 0 [] i := by
  have h := aw_run s 0 0 [] [] i
  rw [List.append_nil] at h
  rw [h]
  cases run s 0 0 0 [] i <;> simp

set_option maxHeartbeats 1000000 in
set_option maxRecDepth 100000 in
theorem splitM_any (la : Option Addr) (lb n cap : Nat) (l : List Int) (w : World) (hn : n = l.length) (hlb : l ≠ [] → lb < w.heap.size) (hla : l ≠ [] → la = some ⟨lb, 0, none⟩)
    (hl : ∀ j, j < l.length → w.cell? ⟨lb, j, none⟩ = some (.int .u8 (l.getD j 0))) (hlen : l.length ≤ 16777216) :
    Calls Try.prog 13 #[.slice la n cap] w (PostS w (splitF (l.length + 1) l 0 [])) := by
  subst hn
  obtain ⟨R, hR⟩ : ∃ R, splitF (l.length + 1) l 0 [] = R := ⟨_, rfl⟩
  rw [hR]
  have HR : Hid (splitF (l.length + 1) l 0 [] = R) := hR
  have Hla : Hid (l ≠ [] → la = some ⟨lb, 0, none⟩) := hla
  have Hlb : Hid (l ≠ [] → lb < w.heap.size) := hlb
  clear hR hla hlb
  go_enter Try.func13, Try.ntmps13
  go_wp2
  go_loopw [4, 5] (fun wv iv wr => ∃ (k f : Nat) (xs : List Value) (ws : List (List Int)), iv = .int .i64 k ∧ k ≤ l.length ∧ OwnV wr w.heap.size wv xs ∧ WordsRd wr wv xs ws ∧ Parted l k ws.length ∧ w.grownBy wr none ∧ l.length - k < f ∧ splitF f l k ws = R) (fun _ iv _ => l.length - (intOf iv).toNat)
  case atStart => exact ⟨0, l.length + 1, [], [], rfl, by omega, OwnV.nil _ _, WordsRd.nil _ _, Parted.start l, World.grownBy.refl _ _, by omega, HR.out⟩
  case round =>
    obtain ⟨k, f, xs, ws, rfl, hk, hownV, hat, hpart, hgr, hf, hE⟩ := hrel
    obtain ⟨f, rfl⟩ : ∃ f', f = f' + 1 := ⟨f - 1, by omega⟩
    have HE : Hid (splitF (f + 1) l k ws = R) := hE
    have HA : Hid (WordsRd wr u4 xs ws) := hat
    have HP : Hid (Parted l k ws.length) := hpart
    have HG : Hid (w.grownBy wr none) := hgr
    have HV : Hid (OwnV wr w.heap.size u4 xs) := hownV
    have hsz : w.heap.size ≤ wr.heap.size := hgr.size
    clear hE hat hpart HR
    by_cases hlt : k < l.length
    · have hnn : l ≠ [] := by rintro rfl; simp at hlt
      obtain rfl := Hla.out hnn
      have hlb := Hlb.out hnn
      clear hnn Hla Hlb
      have hcl : ∀ j, j < l.length → wr.cell? ⟨lb, j, none⟩ = some (.int .u8 (l.getD j 0)) := fun j hj => hgr.cell (hl j hj) (by simp)
      have ec := hcl k hlt
      obtain ⟨c, hc⟩ : ∃ c, l.getD k 0 = c := ⟨_, rfl⟩
      rw [hc] at ec
      have HC : Hid (l.getD k 0 = c) := hc
      have HL : Hid (∀ j, j < l.length → wr.cell? ⟨lb, j, none⟩ = some (.int .u8 (l.getD j 0))) := hcl
      clear hcl hc hl hgr hownV
      cases hsp : isSp c with
      | true =>
        have HE2 : Hid (splitF f l (k + 1) ws = R) := by show _ = _; rw [← HE.out, splitF_blank f l k ws hlt (by rw [HC.out]; exact hsp)]
        go_wp2_with (first | (go_at_call 29; refine (blank_any _ _).mono ?_; rintro e w' ⟨rfl, hw⟩; obtain rfl := hw.symm))
        go_roundw
        case rel => exact ⟨k + 1, f, xs, ws, by go_num, by omega, HV.out, HA.out, HP.out.blank, HG.out, by omega, HE2.out⟩
        case measure => simp [intOf]; omega
      | false =>
        go_wp2_with (first | (go_at_call 29; refine (blank_any _ _).mono ?_; rintro e w' ⟨rfl, hw⟩; obtain rfl := hw.symm))
        refine (Run.run_any _ lb cap l k 0 0 wr (by omega) (fun _ => by omega) (fun _ => rfl) HL.out (by omega)).mono ?_
        intro e w1 hp
        rw [← aw_is_run] at hp
        cases ha : aw (l.drop k) [] k with
        | none =>
          have HR2 : Hid (R = none) := by show _ = _; rw [← HE.out, splitF_none f l k ws hlt (by rw [HC.out]; exact hsp) ha]
          rw [ha] at hp
          obtain ⟨rfl, v', hG⟩ := hp
          have HG2 : Hid (w.grownBy w1 none) := ⟨hG.grown.os.trans HG.out.os, hG.grown.tape.trans HG.out.tape, hG.grown.output.trans HG.out.output, Nat.le_trans HG.out.size hG.size, fun j hj _ => (hG.grown.block j (by have := HG.out.size; omega) (by simp [Value.ownBlock])).trans (HG.out.block j hj (by simp))⟩
          clear hG ha
          go_wp2
          go_ret2
          rw [HR2.out]
          exact ⟨HG2.out, rfl⟩
        | some p =>
          obtain ⟨t, j⟩ := p
          rw [ha] at hp
          obtain ⟨v', rfl, ho2, hG⟩ := hp
          obtain ⟨a2, c2, rfl⟩ : ∃ a2 c2, v' = .slice a2 t.length c2 := by
            rcases ho2.form with ⟨rfl, rfl⟩ | ⟨g, cp, rfl, _⟩
            · exact ⟨_, _, rfl⟩
            · exact ⟨_, _, rfl⟩
          have hcc : isSp (l.getD k 0) = false := by rw [HC.out]; exact hsp
          have hfit := aw_fit _ _ _ _ _ ha
          have hkj : k < j := aw_lt c (l.drop (k + 1)) [] k t j (not_ends c hsp) (by rw [← HC.out, ← drop_cons l k hlt]; exact ha)
          have hpj := HP.out.after hlt hcc hkj hfit
          have hjl : j ≤ l.length := hpj.2
          have HP2 : Hid (Parted l j (ws.length + 1)) := hpj.1
          have hwl : 2 * ws.length ≤ k := HP.out.word hlt hcc
          have HE2 : Hid (splitF f l j (ws ++ [t]) = R) := by show _ = _; rw [← HE.out, splitF_word f l k ws t j hlt hcc ha]
          have hgn : wr.grownBy w1 none := hG.grown
          have HG2 : Hid (w.grownBy w1 none) := ⟨hgn.os.trans HG.out.os, hgn.tape.trans HG.out.tape, hgn.output.trans HG.out.output, Nat.le_trans HG.out.size hgn.size, fun j hj _ => (hgn.block j (by have := HG.out.size; omega) (by simp)).trans (HG.out.block j hj (by simp))⟩
          have HV2 : Hid (OwnV w1 w.heap.size u4 xs) := HV.out.kept hgn (by cases hh : u4.ownBlock <;> simp)
          have HA2 : Hid (WordsRd w1 u4 (xs ++ [.slice a2 t.length c2]) (ws ++ [t])) := (HA.out.grown hgn).snoc ho2 (fun g hg => (HV.out.lt g hg).2)
          have H1 : Hid ((Value.slice a2 t.length c2).oneCell' = true) := own_oneCell ho2
          have hsz1 : w.heap.size ≤ w1.heap.size := by have := hgn.size; omega
          have hxb : 2 * xs.length ≤ k := by have := HA.out.1; omega
          clear hG ho2 hgn hpj hfit ha hcc
          go_wp2_with (first | (at_builtin; refine wpList_appV rfl _ _ rfl w.heap.size u4 xs rfl (OwnV.alloc HV2.out _) ⟨w1.heap.size, 0, none⟩ (.slice a2 t.length c2) rfl H1.out (one_newV _ _) (by omega) (by simp; omega) ?_; intro v3 w3 hov3 hgv3))
          have HT : Hid (GrewV w1 u4 w3 v3) := (GrewV.alloc _ _ _).trans hgv3
          have HOV : Hid (OwnV w3 w.heap.size v3 (xs ++ [.slice a2 t.length c2])) := hov3
          clear hov3 hgv3
          go_roundw
          case rel =>
            refine ⟨j, f, _, ws ++ [t], rfl, hjl, HOV.out, HA2.out.append HT.out, by rw [List.length_append]; exact HP2.out, ?_, by omega, HE2.out⟩
            have hT := HT.out
            exact ⟨hT.grown.os.trans HG2.out.os, hT.grown.tape.trans HG2.out.tape, hT.grown.output.trans HG2.out.output, Nat.le_trans HG2.out.size hT.size, fun i hi _ => (hT.grown.block i (by omega) (by intro e; have := HV2.out.lt i e.symm; omega)).trans (HG2.out.block i hi (by simp))⟩
          case measure => simp [intOf]; omega
    · obtain ⟨ao, c, rfl, hW⟩ := HA.out.rdW HV.out
      have HW : Hid (RdW wr ao ws) := hW
      have HR2 : Hid (R = some ws) := by show _ = _; rw [← HE.out, splitF_end f l k ws hlt]
      clear hW hgr hownV
      go_wp2
      go_ret2
      rw [HR2.out]
      exact ⟨HG.out, ao, c, rfl, HW.out⟩
end Go.Proofs.Qxb6600352a.Split
