/-
  splitInline computes 'splitF'.
-/
import Derived.Test.Qxb6600352aWord
import Derived.Test.Qxb6600352aGrow
import Derived.Test.Qxb6600352aSplitPlain
namespace Go.Proofs.Qxb6600352a.Split
open Go.RowKit
open Go.Proofs.Qxb6600352a.Plain Go.Proofs.Qxb6600352a.Mem Go.Proofs.Qxb6600352a.Base Go.Proofs.Qxb6600352a.Leaf Go.Proofs.Qxb6600352a.Quoted Go.Proofs.Qxb6600352a.Word Go.Proofs.Qxb6600352a.Grow
set_option linter.unusedVariables false
set_option linter.unusedSimpArgs false

/-- A slice of byte slices reads as ws. -/
def RdW (w : World) (ao : Option Addr) (ws : List (List Int)) : Prop :=
  ∀ k, k < ws.length → ∃ b off a c, ao = some ⟨b, off, none⟩ ∧ w.cell? ⟨b, off + k, none⟩ = some (.slice a (ws.getD k []).length c) ∧ Rd w a (ws.getD k [])

/-- What the splitters answer. -/
def PostS (w : World) (R : Option (List (List Int))) (e : Ending) (w' : World) : Prop := w.grownBy w' none ∧ match R with
  | some ws => ∃ ao cap, e = .returned (.tuple #[.slice ao ws.length cap, .bool true]) ∧ RdW w' ao ws
  | none => e = .returned (.tuple #[.slice none 0 0, .bool false])

/-- The words lie in the room, one behind the other. -/
def WordsAt (B : Nat) (r : List Int) (xs : List Value) (ws : List (List Int)) : Prop :=
  xs.length = ws.length ∧ ∀ k, k < ws.length → ∃ ao c s, xs[k]? = some (.slice ao (ws.getD k []).length c) ∧ s + (ws.getD k []).length ≤ r.length ∧ (ws.getD k [] ≠ [] → ao = some ⟨B, s, none⟩) ∧ (r.drop s).take (ws.getD k []).length = ws.getD k []

theorem WordsAt.nil (B : Nat) (r : List Int) : WordsAt B r [] [] := ⟨rfl, fun k hk => by simp at hk⟩
theorem WordsAt.one {B : Nat} {r : List Int} {xs : List Value} {ws : List (List Int)} (h : WordsAt B r xs ws) : ∀ u ∈ xs, u.oneCell' = true := by
  intro u hu
  obtain ⟨k, hk, rfl⟩ := List.getElem_of_mem hu
  obtain ⟨ao, c, s, e, _⟩ := h.2 k (by rw [← h.1]; exact hk)
  rw [List.getElem?_eq_getElem hk] at e
  rw [Option.some.inj e]
  rfl
theorem WordsAt.snoc {B : Nat} {r t : List Int} {xs : List Value} {ws : List (List Int)} (h : WordsAt B r xs ws) (ao : Option Addr) (c : Nat) (ha : t ≠ [] → ao = some ⟨B, r.length, none⟩) :
    WordsAt B (r ++ t) (xs ++ [.slice ao t.length c]) (ws ++ [t]) := by
  refine ⟨by simp [h.1], ?_⟩
  intro k hk
  by_cases hk2 : k < ws.length
  · obtain ⟨a, c2, s, e, h1, h2, h3⟩ := h.2 k hk2
    have eg : (ws ++ [t]).getD k [] = ws.getD k [] := by simp [List.getD, List.getElem?_append_left hk2]
    rw [eg]
    refine ⟨a, c2, s, ?_, by rw [List.length_append]; omega, h2, ?_⟩
    · rw [List.getElem?_append_left (by rw [h.1]; exact hk2)]; exact e
    · rw [List.drop_append_of_le_length (by omega), List.take_append_of_le_length (by rw [List.length_drop]; omega)]; exact h3
  · have hk3 : k = ws.length := by simp at hk; omega
    subst hk3
    have eg : (ws ++ [t]).getD ws.length [] = t := by simp [List.getD]
    rw [eg]
    refine ⟨ao, c, r.length, ?_, by simp, ha, by simp⟩
    rw [← h.1]; simp

/-- Out of the room's own reading: the words read. -/
theorem WordsAt.read {B base n cap : Nat} {r : List Int} {xs : List Value} {ws : List (List Int)} {w : World} (h : WordsAt B r xs ws) (hr : Own w base (.slice (some ⟨B, 0, none⟩) n cap) r) (k : Nat) (hk : k < ws.length) (ao : Option Addr) (m c : Nat) (he : xs[k]? = some (.slice ao m c)) : m = (ws.getD k []).length ∧ Rd w ao (ws.getD k []) := by
  obtain ⟨a, c2, s, e, h1, h2, h3⟩ := h.2 k hk
  rw [he] at e
  cases e
  refine ⟨rfl, ?_⟩
  intro j hj
  have hne : ws.getD k [] ≠ [] := by intro e2; rw [e2] at hj; simp at hj
  refine ⟨B, s, h2 hne, ?_⟩
  rw [hr.cell (s + j) (by omega)]
  generalize ws.getD k [] = y at *
  have h4 := congrArg (fun l => l.getD j 0) h3
  simp only [List.getD, List.getElem?_take, List.getElem?_drop] at h4
  rw [if_pos hj] at h4
  simp only [List.getD]
  exact congrArg (fun x => some (Value.int .u8 x)) h4

theorem rdW_of {B base bw n cap : Nat} {r : List Int} {xs : List Value} {ws : List (List Int)} {w : World} {wv : Value} (h : WordsAt B r xs ws) (hr : Own w base (.slice (some ⟨B, 0, none⟩) n cap) r) (hw : OwnV w bw wv xs) :
    ∃ ao c, wv = .slice ao ws.length c ∧ RdW w ao ws := by
  rcases hw.form with ⟨rfl, rfl⟩ | ⟨g, c, rfl, _⟩
  · have : ws = [] := List.eq_nil_of_length_eq_zero (by rw [← h.1]; rfl)
    subst this
    exact ⟨none, 0, rfl, fun k hk => by simp at hk⟩
  · refine ⟨some ⟨g, 0, none⟩, c, by rw [h.1], ?_⟩
    intro k hk
    obtain ⟨a, c2, s, e, _⟩ := h.2 k hk
    obtain ⟨_, h2⟩ := h.read hr k hk a _ c2 e
    refine ⟨g, 0, a, c2, rfl, ?_, h2⟩
    rw [Nat.zero_add, hw.cell k (by rw [h.1]; exact hk)]
    exact e

set_option maxHeartbeats 1000000 in
set_option maxRecDepth 100000 in
theorem split_any (la : Option Addr) (lb n cap : Nat) (l : List Int) (w : World) (hn : n = l.length) (hlb : l ≠ [] → lb < w.heap.size) (hla : l ≠ [] → la = some ⟨lb, 0, none⟩)
    (hl : ∀ j, j < l.length → w.cell? ⟨lb, j, none⟩ = some (.int .u8 (l.getD j 0))) (hlen : l.length ≤ 16777216) :
    Calls Try.prog 28 #[.slice la n cap] w (PostS w (splitF (l.length + 1) l 0 [])) := by
  subst hn
  obtain ⟨R, hR⟩ : ∃ R, splitF (l.length + 1) l 0 [] = R := ⟨_, rfl⟩
  rw [hR]
  have HR : Hid (splitF (l.length + 1) l 0 [] = R) := hR
  have Hla : Hid (l ≠ [] → la = some ⟨lb, 0, none⟩) := hla
  have Hlb : Hid (l ≠ [] → lb < w.heap.size) := hlb
  clear hR hla hlb
  obtain ⟨i0, hi, hz0, hz1, hz2⟩ := info_parts info5
  go_enter Try.func28, Try.ntmps28
  go_wp2_with (first | (at_make; refine wpList_make_own _ rfl _ _ 22 rfl w.heap.size 5 i0 (.int .u8 0) 1 Try.underlying22 hi hz0 hz1 _ _ _ l.length rfl rfl rfl (by rw [hz2]; omega) (by unfold maxLen; omega) (Nat.le_refl _) ?_))
  intro w1 hown1 hgrow1
  have ho : Own w1 w.heap.size (.slice (some ⟨w.heap.size, 0, none⟩) 0 l.length) [] := hown1
  clear hown1 hi hz0 hz1 hz2
  go_wp2
  go_loopw [2, 4, 5] (fun wv rv iv wr => ∃ (k f : Nat) (r : List Int) (xs : List Value) (ws : List (List Int)), iv = .int .i64 k ∧ k ≤ l.length ∧ rv = .slice (some ⟨w.heap.size, 0, none⟩) r.length l.length ∧ Own wr w.heap.size rv r ∧ OwnV wr (w.heap.size + 1) wv xs ∧ WordsAt w.heap.size r xs ws ∧ r.length ≤ k ∧ Parted l k ws.length ∧ w.grownBy wr none ∧ l.length - k < f ∧ splitF f l k ws = R) (fun _ _ iv _ => l.length - (intOf iv).toNat)
  case atStart => exact ⟨0, l.length + 1, [], [], [], rfl, by omega, rfl, ho, OwnV.nil _ _, WordsAt.nil _ _, by simp, Parted.start l, hgrow1, by omega, HR.out⟩
  case round =>
    obtain ⟨k, f, r, xs, ws, rfl, hk, rfl, hown, hownV, hat, hrk, hpart, hgr, hf, hE⟩ := hrel
    obtain ⟨f, rfl⟩ : ∃ f', f = f' + 1 := ⟨f - 1, by omega⟩
    have HE : Hid (splitF (f + 1) l k ws = R) := hE
    have HA : Hid (WordsAt w.heap.size r xs ws) := hat
    have HP : Hid (Parted l k ws.length) := hpart
    have HG : Hid (w.grownBy wr none) := hgr
    have HO : Hid (Own wr w.heap.size (.slice (some ⟨w.heap.size, 0, none⟩) r.length l.length) r) := hown
    have HV : Hid (OwnV wr (w.heap.size + 1) u2 xs) := hownV
    have hsz : w.heap.size + 1 ≤ wr.heap.size := (hown.lt w.heap.size rfl).2
    clear hE hat hpart HR ho hgrow1
    by_cases hlt : k < l.length
    · have hnn : l ≠ [] := by rintro rfl; simp at hlt
      obtain rfl := Hla.out hnn
      have hlb := Hlb.out hnn
      clear hnn Hla Hlb
      have hcl : ∀ j, j < l.length → wr.cell? ⟨lb, j, none⟩ = some (.int .u8 (l.getD j 0)) := fun j hj => hgr.cell (hl j hj) (by simp)
      have ec := hcl k hlt
      obtain ⟨c, hc⟩ : ∃ c, l.getD k 0 = c := ⟨_, rfl⟩
      rw [hc] at ec
      have HC : Hid (l.getD k 0 = c) := hc
      have HL : Hid (∀ j, j < l.length → wr.cell? ⟨lb, j, none⟩ = some (.int .u8 (l.getD j 0))) := hcl
      clear hcl hc hl hgr hown hownV
      cases hsp : isSp c with
      | true =>
        have HE2 : Hid (splitF f l (k + 1) ws = R) := by show _ = _; rw [← HE.out, splitF_blank f l k ws hlt (by rw [HC.out]; exact hsp)]
        go_wp2_with (first | (go_at_call 36; refine (isSpace_any _ _).mono ?_; rintro e w' ⟨rfl, hw⟩; obtain rfl := hw.symm))
        go_roundw
        case rel => exact ⟨k + 1, f, r, xs, ws, by go_num, by omega, rfl, HO.out, HV.out, HA.out, by omega, HP.out.blank, HG.out, by omega, HE2.out⟩
        case measure => simp [intOf]; omega
      | false =>
        go_wp2_with (first | (go_at_call 36; refine (isSpace_any _ _).mono ?_; rintro e w' ⟨rfl, hw⟩; obtain rfl := hw.symm))
        have hroom := aw_room (l.drop k) r k
        refine (word_all w.heap.size _ r _ lb l.length cap l k wr rfl HO.out (by omega) (fun _ => by omega) (fun _ => by simp [Value.ownBlock]; omega) (fun _ => rfl) HL.out (by omega)).mono ?_
        intro e w1 hp
        rw [hroom] at hp
        cases ha : aw (l.drop k) [] k with
        | none =>
          have HR2 : Hid (R = none) := by show _ = _; rw [← HE.out, splitF_none f l k ws hlt (by rw [HC.out]; exact hsp) ha]
          rw [ha] at hp
          obtain ⟨rfl, v', hG⟩ := hp
          have HG2 : Hid (w.grownBy w1 none) := ⟨hG.grown.os.trans HG.out.os, hG.grown.tape.trans HG.out.tape, hG.grown.output.trans HG.out.output, Nat.le_trans HG.out.size hG.size, fun j hj _ => (hG.grown.block j (by have := HG.out.size; omega) (by simp [Value.ownBlock]; omega)).trans (HG.out.block j hj (by simp))⟩
          clear hG hroom ha
          go_wp2
          go_ret2
          rw [HR2.out]
          exact ⟨HG2.out, rfl⟩
        | some p =>
          obtain ⟨t, j⟩ := p
          rw [ha] at hp
          obtain ⟨v', rfl, ho2, hG⟩ := hp
          have hcc : isSp (l.getD k 0) = false := by rw [HC.out]; exact hsp
          have hfit := aw_fit _ _ _ _ _ ha
          have hkj : k < j := aw_lt c (l.drop (k + 1)) [] k t j (not_ends c hsp) (by rw [← HC.out, ← drop_cons l k hlt]; exact ha)
          have hpj := HP.out.after hlt hcc hkj hfit
          have hjl : j ≤ l.length := hpj.2
          have HP2 : Hid (Parted l j (ws.length + 1)) := hpj.1
          have hwl : 2 * ws.length ≤ k := HP.out.word hlt hcc
          have HE2 : Hid (splitF f l j (ws ++ [t]) = R) := by show _ = _; rw [← HE.out, splitF_word f l k ws t j hlt hcc ha]
          have htl : t.length + k ≤ j := by have := hfit.2.2.1; simp at this; omega
          have hfits := hG.fits (by simp [Value.ownBlock]) (by rw [ho2.len]; simp [capOf]; omega)
          have hv' : v' = .slice (some ⟨w.heap.size, 0, none⟩) (r ++ t).length l.length := by
            rcases ho2.form with ⟨rfl, _⟩ | ⟨g, cp, rfl, _⟩
            · have := hfits.1; simp [Value.ownBlock] at this
            · have h1 := hfits.1
              have h2 := hfits.2
              simp [Value.ownBlock] at h1
              simp [capOf] at h2
              rw [h1, h2]
          subst hv'
          have HG2 : Hid (w.grownBy w1 none) := ⟨hG.grown.os.trans HG.out.os, hG.grown.tape.trans HG.out.tape, hG.grown.output.trans HG.out.output, Nat.le_trans HG.out.size hG.size, fun j hj _ => (hG.grown.block j (by have := HG.out.size; omega) (by simp [Value.ownBlock]; omega)).trans (HG.out.block j hj (by simp))⟩
          have HV2 : Hid (OwnV w1 (w.heap.size + 1) u2 xs) := by
            refine HV.out.kept hG.grown ?_
            right
            intro e
            have := HV.out.lt w.heap.size (by rw [e]; rfl)
            omega
          have HO2 : Hid (Own w1 w.heap.size (.slice (some ⟨w.heap.size, 0, none⟩) (r ++ t).length l.length) (r ++ t)) := ho2
          have hsz1 : w.heap.size + 1 ≤ w1.heap.size := by have := hG.size; omega
          have hxl : xs.length = ws.length := HA.out.1
          have HXL : Hid (xs.length = ws.length) := hxl
          have hxb : 2 * xs.length ≤ k := by omega
          clear hxl hG ho2 hfits hpj hfit hroom ha hcc
          obtain ⟨m, hm⟩ : ∃ m, (r ++ t).length = m := ⟨_, rfl⟩
          have HM : Hid (m = r.length + t.length) := by show _ = _; rw [← hm]; simp
          have hm1 : r.length ≤ m := by have := HM.out; omega
          have hm2 : m ≤ l.length := by have := HM.out; omega
          rw [hm] at HO2 ⊢
          clear hm
          have hb1 : (r.length : Int) ≤ (m : Int) := by omega
          have hb2 : (m : Int) ≤ (l.length : Int) := by omega
          have hb0 : (0 : Int) ≤ (r.length : Int) := Int.natCast_nonneg _
          have wl1 : IntKind.i64.wrap ((l.length : Int) + 1) = (l.length : Int) + 1 := wrap_in _ (by omega) (by omega)
          have HT : Hid (IntKind.i64.wrap (((l.length : Int) + 1).tdiv 2) = (((l.length + 1) / 2 : Nat) : Int)) := by
            show _ = _
            rw [Int.tdiv_eq_ediv_of_nonneg (by omega), wrap_in _ (by omega) (by omega)]
            omega
          have H1 : Hid (∀ u ∈ xs, u.oneCell' = true) := HA.out.one
          have hfin : Hid (∀ (w3 : World) (v3 : Value) (ao : Option Addr) (c : Nat), (t ≠ [] → ao = some ⟨w.heap.size, r.length, none⟩) → OwnV w3 (w.heap.size + 1) v3 (xs ++ [.slice ao (m - r.length) c]) → GrewV w1 u2 w3 v3 →
              ∃ (k' f' : Nat) (r' : List Int) (xs' : List Value) (ws' : List (List Int)), Value.int .i64 (j : Int) = .int .i64 (k' : Int) ∧ k' ≤ l.length ∧ Value.slice (some ⟨w.heap.size, 0, none⟩) m l.length = .slice (some ⟨w.heap.size, 0, none⟩) r'.length l.length ∧ Own w3 w.heap.size (.slice (some ⟨w.heap.size, 0, none⟩) m l.length) r' ∧ OwnV w3 (w.heap.size + 1) v3 xs' ∧ WordsAt w.heap.size r' xs' ws' ∧ r'.length ≤ k' ∧ Parted l k' ws'.length ∧ w.grownBy w3 none ∧ l.length - k' < f' ∧ splitF f' l k' ws' = R) := by
            intro w3 v3 ao c hao hov hT
            have hml : m - r.length = t.length := by have := HM.out; omega
            rw [hml] at hov
            refine ⟨j, f, r ++ t, _, ws ++ [t], rfl, hjl, ?_, ?_, hov, HA.out.snoc ao c hao, ?_, ?_, ?_, by omega, HE2.out⟩
            · rw [List.length_append, ← HM.out]
            · refine World.ownsRow.kept HO2.out hT.grown (.inr ?_)
              intro e
              have := HV2.out.lt w.heap.size (by rw [← e]; rfl)
              omega
            · rw [List.length_append]; omega
            · rw [List.length_append]; exact HP2.out
            · exact ⟨hT.grown.os.trans HG2.out.os, hT.grown.tape.trans HG2.out.tape, hT.grown.output.trans HG2.out.output, Nat.le_trans HG2.out.size hT.size, fun i hi _ => (hT.grown.block i (by have := HG2.out.size; omega) (by intro e; have := HV2.out.lt i e.symm; omega)).trans (HG2.out.block i hi (by simp))⟩
          go_wp2
          by_cases hmr : m = r.length
          · have ht0 : t = [] := List.eq_nil_of_length_eq_zero (by have := HM.out; omega)
            subst hmr
            go_region_held3 (fun w' => True) (trivial)
              ((first | (go_at_call 37; refine (grow_any u2 xs (w.heap.size + 1) ((l.length + 1) / 2) _ _ HT.out (by first | exact HV2.out | exact HV2.out.alloc _) (by simp; omega) (by omega) (by omega) H1.out).mono ?_; rintro e w2 ⟨v2, rfl, hov2, hgv2⟩) | (refine step_appV (by rfl) _ _ (by rfl) (w.heap.size + 1) v2 xs (by rfl) (OwnV.alloc hov2 _) ⟨w2.heap.size, 0, none⟩ (Value.slice (some ⟨w.heap.size, 0, none⟩) 0 0) (by rfl) (by rfl) (one_newV _ _) (by omega) (by have := hgv2.size; simp at this; simp; omega) ?_; intro v3 w3 hov3 hgv3; have hT : GrewV w1 u2 w3 v3 := (GrewV.drew _ _).trans (hgv2.trans ((GrewV.alloc _ _ _).trans hgv3))) | (refine step_appV (by rfl) _ _ (by rfl) (w.heap.size + 1) v2 xs (by rfl) hov2 ⟨w1.heap.size, 0, none⟩ (Value.slice (some ⟨w.heap.size, 0, none⟩) 0 0) (by rfl) (by rfl) (by rw [hgv2.cell (by simp [Addr.add]) (by intro e; have := HV2.out.lt _ e; simp [Addr.add] at this)]; simp [Addr.add]) (by omega) (by have := hgv2.size; simp at this; omega) ?_; intro v3 w3 hov3 hgv3; have hT : GrewV w1 u2 w3 v3 := ((GrewV.alloc _ _ _).trans (GrewV.drew _ _)).trans (hgv2.trans hgv3))))
            all_goals
              have HOV : Hid (OwnV w3 (w.heap.size + 1) v3 (xs ++ [.slice (some ⟨w.heap.size, 0, none⟩) (r.length - r.length) 0])) := by
                have h0 := hov3
                rw [show (0 : Nat) = r.length - r.length by omega] at h0
                rw [show (0 : Nat) = r.length - r.length by omega]
                exact h0
              have HTT : Hid (GrewV w1 u2 w3 v3) := hT
              clear hov3 hT hov2 hgv2 hgv3
              go_wp2
              go_roundw
              case rel => exact hfin.out w3 v3 _ _ (fun h => absurd ht0 h) HOV.out HTT.out
              case measure => simp [intOf]; omega
          ·
            go_region_held3 (fun w' => True) (trivial)
              ((first | (go_at_call 37; refine (grow_any u2 xs (w.heap.size + 1) ((l.length + 1) / 2) _ _ HT.out (by first | exact HV2.out | exact HV2.out.alloc _) (by simp; omega) (by omega) (by omega) H1.out).mono ?_; rintro e w2 ⟨v2, rfl, hov2, hgv2⟩) | (refine step_appV (by rfl) _ _ (by rfl) (w.heap.size + 1) v2 xs (by rfl) (OwnV.alloc hov2 _) ⟨w2.heap.size, 0, none⟩ (Value.slice (some ⟨w.heap.size, r.length, none⟩) (m - r.length) (m - r.length)) (by rfl) (by rfl) (one_newV _ _) (by omega) (by have := hgv2.size; simp at this; simp; omega) ?_; intro v3 w3 hov3 hgv3; have hT : GrewV w1 u2 w3 v3 := (GrewV.drew _ _).trans (hgv2.trans ((GrewV.alloc _ _ _).trans hgv3))) | (refine step_appV (by rfl) _ _ (by rfl) (w.heap.size + 1) v2 xs (by rfl) hov2 ⟨w1.heap.size, 0, none⟩ (Value.slice (some ⟨w.heap.size, r.length, none⟩) (m - r.length) (m - r.length)) (by rfl) (by rfl) (by rw [hgv2.cell (by simp [Addr.add]) (by intro e; have := HV2.out.lt _ e; simp [Addr.add] at this)]; simp [Addr.add]) (by omega) (by have := hgv2.size; simp at this; omega) ?_; intro v3 w3 hov3 hgv3; have hT : GrewV w1 u2 w3 v3 := ((GrewV.alloc _ _ _).trans (GrewV.drew _ _)).trans (hgv2.trans hgv3))))
            all_goals
              have HOV : Hid (OwnV w3 (w.heap.size + 1) v3 (xs ++ [.slice (some ⟨w.heap.size, r.length, none⟩) (m - r.length) (m - r.length)])) := hov3
              have HTT : Hid (GrewV w1 u2 w3 v3) := hT
              clear hov3 hT hov2 hgv2 hgv3
              go_wp2
              go_roundw
              case rel => exact hfin.out w3 v3 _ _ (fun _ => rfl) HOV.out HTT.out
              case measure => simp [intOf]; omega
    · obtain ⟨ao, c, rfl, hW⟩ := rdW_of HA.out HO.out HV.out
      have HW : Hid (RdW wr ao ws) := hW
      have HR2 : Hid (R = some ws) := by show _ = _; rw [← HE.out, splitF_end f l k ws hlt]
      clear hW hgr hown hownV
      go_wp2
      go_ret2
      rw [HR2.out]
      exact ⟨HG.out, ao, c, rfl, HW.out⟩

theorem postS_form {w : World} {R : Option (List (List Int))} {e : Ending} {w' : World} (h : PostS w R e w') :
    ∃ (v' : Value) (ok : Bool), e = .returned (.tuple #[v', .bool ok]) ∧ PostS w R (.returned (.tuple #[v', .bool ok])) w' := by
  cases R with
  | none =>
    obtain ⟨h1, rfl⟩ := h
    exact ⟨_, _, rfl, h1, rfl⟩
  | some ws =>
    obtain ⟨h1, ao, cap, rfl, h2⟩ := h
    exact ⟨_, _, rfl, h1, ao, cap, rfl, h2⟩

theorem zzSplit_any (la : Option Addr) (lb n cap : Nat) (l : List Int) (w : World) (hn : n = l.length) (hlb : l ≠ [] → lb < w.heap.size) (hla : l ≠ [] → la = some ⟨lb, 0, none⟩)
    (hl : ∀ j, j < l.length → w.cell? ⟨lb, j, none⟩ = some (.int .u8 (l.getD j 0))) (hlen : l.length ≤ 16777216) :
    Calls Try.prog 12 #[.slice la n cap] w (PostS w (splitF (l.length + 1) l 0 [])) := by
  have HC : Hid (Calls Try.prog 28 #[.slice la n cap] w (PostS w (splitF (l.length + 1) l 0 []))) := split_any la lb n cap l w hn hlb hla hl hlen
  clear hl hla hlb hn
  generalize splitF (l.length + 1) l 0 [] = R at *
  go_enter Try.func12, Try.ntmps12
  go_wp2_with fail
  refine HC.out.mono ?_
  intro e w' hp
  obtain ⟨v', ok, rfl, hp⟩ := postS_form hp
  have HP : Hid (PostS w R (.returned (.tuple #[v', .bool ok])) w') := hp
  clear hp HC
  go_wp2
  go_ret2
  exact HP.out
end Go.Proofs.Qxb6600352a.Split
