/-
  The law FnSplitInlineReadsBackEncodedWords, walked.
-/
import Derived.Test.Qxb6600352aTopS
import Derived.Test.Qxb6600352aCloneAll
import Derived.Test.Qxb6600352aEnc2
import Derived.Deep.DeepCutAuto
namespace Go.Proofs.Qxb6600352a.Top
open Go.RowKit
open Go.Proofs.Qxb6600352a.Plain Go.Proofs.Qxb6600352a.Mem Go.Proofs.Qxb6600352a.Base Go.Proofs.Qxb6600352a.Leaf Go.Proofs.Qxb6600352a.Quoted Go.Proofs.Qxb6600352a.Word Go.Proofs.Qxb6600352a.Split Go.Proofs.Qxb6600352a.Enc
set_option linter.unusedVariables false
set_option linter.unusedSimpArgs false

def sumL (ws : List (List Int)) : Nat := (ws.map List.length).sum
theorem sumL_snoc (ws : List (List Int)) (x : List Int) : sumL (ws ++ [x]) = sumL ws + x.length := by simp [sumL]
theorem take_snocW (ws : List (List Int)) (k : Nat) (h : k < ws.length) : ws.take (k + 1) = ws.take k ++ [ws.getD k []] := by
  rw [List.take_succ_eq_append_getElem h]; simp [h]
theorem sumL_mem (ws : List (List Int)) : ∀ x ∈ ws, x.length ≤ sumL ws := by
  induction ws with
  | nil => intro x hx; simp at hx
  | cons y ws ih =>
    intro x hx
    have e : sumL (y :: ws) = y.length + sumL ws := by simp [sumL]
    rcases List.mem_cons.1 hx with rfl | hx
    · omega
    · have := ih x hx; omega

theorem sumL_append (a b : List (List Int)) : sumL (a ++ b) = sumL a + sumL b := by simp [sumL]
theorem sumL_take (ws : List (List Int)) (k : Nat) (h : k < ws.length) : sumL (ws.take k) + (ws.getD k []).length ≤ sumL ws := by
  have e1 : sumL (ws.take (k + 1)) = sumL (ws.take k) + (ws.getD k []).length := by rw [take_snocW ws k h, sumL_snoc]
  have e2 : sumL ws = sumL (ws.take (k + 1)) + sumL (ws.drop (k + 1)) := by rw [← sumL_append, List.take_append_drop]
  omega
theorem clone_at (ao : Option Addr) (cap : Nat) (l : List Int) (n : Nat) (w : World) (hn : l.length = n) (hrd : Rd w ao l) (hnil : ao = none → cap = 0) (hlen : n ≤ 1099511627776) :
    Calls Try.prog 11 #[.slice ao n cap] w fun e w' => ∃ a c, e = .returned (.slice a n c) ∧ Rd w' a l ∧ w.grownBy w' none := by
  subst hn
  refine (clone_any ao cap l w hrd hnil hlen).mono ?_
  rintro e w' ⟨v, rfl, ho, hg⟩
  obtain ⟨a, c, rfl⟩ := slice_form ho
  exact ⟨a, c, rfl, Own.rd ho, hg⟩
theorem Rd.grown {w w' : World} {ao : Option Addr} {l : List Int} (h : Rd w ao l) (g : w.grownBy w' none) : Rd w' ao l := by
  intro j hj
  obtain ⟨b, off, e, hc⟩ := h j hj
  exact ⟨b, off, e, g.cell hc (by simp)⟩
theorem grown_trans {w w1 w2 : World} (h : w.grownBy w1 none) (k : w1.grownBy w2 none) : w.grownBy w2 none :=
  ⟨k.os.trans h.os, k.tape.trans h.tape, k.output.trans h.output, Nat.le_trans h.size k.size, fun j hj _ => (k.block j (Nat.lt_of_lt_of_le hj h.size) (by simp)).trans (h.block j hj (by simp))⟩
theorem three_new (w : World) (x y z : Int) : ∀ j, j < [x, y, z].length → (w.alloc (.cells #[.int .u8 x, .int .u8 y, .int .u8 z] 5)).cell? ((⟨w.heap.size, 0, none⟩ : Addr).add j) = some (.int .u8 ([x, y, z].getD j 0)) := by
  intro j hj
  match j, hj with
  | 0, _ => simp [Addr.add]
  | 1, _ => simp [Addr.add]
  | 2, _ => simp [Addr.add]
  | j + 3, hj => simp at hj; omega
/-- A word of the clones lies apart from a slice that was begun later. -/
theorem apart_of {w3 wr : World} {a : Option Addr} {lv : Value} {l y : List Int} (h : Rd w3 a y) (hg : w3.grownBy wr none) (ho : Own wr w3.heap.size lv l) : Apart wr a lv y := by
  intro j hj
  obtain ⟨b, off, e, hc⟩ := h j hj
  have hb := World.block_lt_of_cell? w3 _ hc
  refine ⟨b, off, e, Nat.lt_of_lt_of_le hb hg.size, ?_, hg.cell hc (by simp)⟩
  intro e2
  have := (ho.lt b e2).1
  simp at hb
  omega
theorem rd_cell {w w' : World} {ao : Option Addr} {l : List Int} (h : Rd w ao l) (hg : w.grownBy w' none) (j : Nat) (hj : j < l.length) : ∃ b off, ao = some ⟨b, off, none⟩ ∧ w'.cell? ⟨b, off + j, none⟩ = some (.int .u8 (l.getD j 0)) := Rd.grown h hg j hj
def BytesPost (w : World) (T : Nat) (e : Ending) (w' : World) : Prop := ∃ b, e = .returned (.bool b) ∧ w' = w ∧ (b = true → T ≤ 1048576)
/-- Every word's length is an int's. -/
theorem bytesR_any (ao a1 a2 : Option Addr) (n cap m1 c1 m2 c2 : Nat) (ws : List (List Int)) (w : World) (hn : ws.length = n) (hrd : RdA w ao ws) (hwl : ∀ x ∈ ws, x.length ≤ maxLen) (h0 : n ≤ maxLen) (h1 : m1 ≤ maxLen) (h2 : m2 ≤ maxLen) :
    Calls Try.prog 15 #[.slice ao n cap, .slice a1 m1 c1, .slice a2 m2 c2] w (BytesPost w (n + sumL ws + m1 + m2)) := by
  unfold maxLen at h0 h1 h2
  have HN : Hid (ws.length = n) := hn
  have HRD : Hid (RdA w ao ws) := hrd
  have HWL : Hid (∀ x ∈ ws, x.length ≤ maxLen) := hwl
  clear hn hrd hwl
  by_cases g0 : 1048576 < n
  · go_enter Try.func15, Try.ntmps15
    go_wp2
    go_ret
    exact ⟨_, rfl, rfl, fun e => by cases e⟩
  · go_enter Try.func15, Try.ntmps15
    go_wp2
    go_loop [7, 8] (fun zv iv => ∃ k : Nat, k ≤ n ∧ iv = .int .i64 k ∧ zv = .int .i64 ((n + sumL (ws.take k) : Nat) : Int) ∧ n + sumL (ws.take k) ≤ 1048576) (fun _ iv => n - (intOf iv).toNat)
    case atStart => exact ⟨0, by omega, rfl, by simp [sumL], by simp [sumL]; omega⟩
    case round =>
      obtain ⟨k, hk, rfl, rfl, hle⟩ := hrel
      by_cases hlt : k < n
      · obtain ⟨b, off, a, c, rfl, g1, g2, g3⟩ := HRD.out k (by rw [HN.out]; exact hlt)
        have hyl : (ws.getD k []).length ≤ maxLen := HWL.out _ (by simp [List.getD, show k < ws.length by rw [HN.out]; exact hlt])
        unfold maxLen at hyl
        have HS : Hid (sumL (ws.take (k + 1)) = sumL (ws.take k) + (ws.getD k []).length) := by show _ = _; rw [take_snocW ws k (by rw [HN.out]; exact hlt), sumL_snoc]
        have hki : (k : Int) < (n : Int) := by omega
        generalize ws.getD k [] = y at *
        generalize sumL (ws.take k) = s at *
        clear g2 g3
        by_cases hy : 1048576 < y.length
        · go_wp2
          go_ret
          exact ⟨_, rfl, rfl, fun e => by cases e⟩
        · by_cases hy2 : 1048576 < n + s + y.length
          · go_wp2
            go_ret
            exact ⟨_, rfl, rfl, fun e => by cases e⟩
          · go_wp2
            go_round
            case rel => exact ⟨k + 1, by omega, by go_num, by rw [HS.out]; go_num, by rw [HS.out]; omega⟩
            case measure => simp [intOf]; omega
      · have HF : Hid (sumL (ws.take k) = sumL ws) := by show _ = _; rw [List.take_of_length_le (by rw [HN.out]; omega)]
        rw [HF.out] at hle ⊢
        generalize sumL ws = s at *
        by_cases q1 : 1048576 < m1
        · go_wp2
          go_ret
          exact ⟨_, rfl, rfl, fun e => by cases e⟩
        · by_cases q2 : 1048576 < n + s + m1
          · go_wp2
            go_ret
            exact ⟨_, rfl, rfl, fun e => by cases e⟩
          · by_cases q3 : 1048576 < m2
            · go_wp2
              go_ret
              exact ⟨_, rfl, rfl, fun e => by cases e⟩
            · by_cases q4 : 1048576 < n + s + m1 + m2
              · go_wp2
                go_ret
                exact ⟨_, rfl, rfl, fun e => by cases e⟩
              · go_wp2
                go_ret
                exact ⟨_, rfl, rfl, fun _ => by omega⟩

set_option maxHeartbeats 2000000 in
set_option maxRecDepth 100000 in
theorem back_top (ao a1 a2 : Option Addr) (n cap m1 c1 m2 c2 : Nat) (ws : List (List Int)) (l1 l2 : List Int) (w : World) (hn : ws.length = n) (e1 : l1.length = m1) (e2 : l2.length = m2) (hrd : RdA w ao ws) (hnil : ao = none → cap = 0) (r1 : Rd w a1 l1) (z1 : a1 = none → c1 = 0) (r2 : Rd w a2 l2) (z2 : a2 = none → c2 = 0)
    (hwl : ∀ x ∈ ws, x.length ≤ maxLen) (hby : ∀ x ∈ ws, ∀ b ∈ x, 0 ≤ b ∧ b ≤ 255) (h0 : n ≤ maxLen) (h1 : m1 ≤ maxLen) (h2 : m2 ≤ maxLen) :
    Calls Try.prog 4 #[.slice ao n cap, .slice a1 m1 c1, .slice a2 m2 c2] w fun e w' => e = .returned (.bool true) ∧ Below w.heap.size w w' := by
  have HN : Hid (ws.length = n) := hn
  have HRD : Hid (RdA w ao ws) := hrd
  have HNIL : Hid (ao = none → cap = 0) := hnil
  have R1 : Hid (Rd w a1 l1) := r1
  have R2 : Hid (Rd w a2 l2) := r2
  have Z1 : Hid (a1 = none → c1 = 0) := z1
  have Z2 : Hid (a2 = none → c2 = 0) := z2
  have E1 : Hid (l1.length = m1) := e1
  have E2 : Hid (l2.length = m2) := e2
  have HBY : Hid (∀ x ∈ ws, ∀ b ∈ x, 0 ≤ b ∧ b ≤ 255) := hby
  have C := bytesR_any ao a1 a2 n cap m1 c1 m2 c2 ws w hn hrd hwl h0 h1 h2
  have HC : Hid (Calls Try.prog 15 #[.slice ao n cap, .slice a1 m1 c1, .slice a2 m2 c2] w (BytesPost w (n + sumL ws + m1 + m2))) := C
  clear hn hrd hnil r1 r2 z1 z2 e1 e2 hby hwl C h0 h1 h2
  go_enter Try.func4, Try.ntmps4
  go_wp2_with fail
  refine HC.out.mono ?_
  rintro e w0 ⟨b, rfl, hw, hb⟩
  obtain rfl := hw.symm
  clear hw HC
  cases b with
  | false =>
    clear hb
    go_wp2
    go_ret
    exact ⟨rfl, Below.refl _ _⟩
  | true =>
    have hsum := hb rfl
    clear hb
    generalize hS : sumL ws = S at *
    have HS : Hid (sumL ws = S) := hS
    clear hS
    by_cases ht : 1048576 < 8 * n + m1 + m2
    · go_wp2
      go_ret
      exact ⟨rfl, Below.refl _ _⟩
    · go_wp2
      go_loop [7, 8] (fun zv iv => ∃ k : Nat, k ≤ n ∧ iv = .int .i64 k ∧ zv = .int .i64 ((8 * n + m1 + m2 + sumL (ws.take k) : Nat) : Int) ∧ 8 * n + m1 + m2 + sumL (ws.take k) ≤ 1048576) (fun _ iv => n - (intOf iv).toNat)
      case atStart => exact ⟨0, by omega, rfl, by simp [sumL], by simp [sumL]; omega⟩
      case round =>
        obtain ⟨k, hk, rfl, rfl, hle⟩ := hrel
        by_cases hlt : k < n
        · obtain ⟨b, off, a, c, rfl, g1, g2, g3⟩ := HRD.out k (by rw [HN.out]; exact hlt)
          have hyl : (ws.getD k []).length ≤ 1048576 := by
            have := sumL_mem ws (ws.getD k []) (by simp [List.getD, show k < ws.length by rw [HN.out]; exact hlt])
            have := HS.out
            omega
          have HS1 : Hid (sumL (ws.take (k + 1)) = sumL (ws.take k) + (ws.getD k []).length) := by show _ = _; rw [take_snocW ws k (by rw [HN.out]; exact hlt), sumL_snoc]
          have hki : (k : Int) < (n : Int) := by omega
          generalize ws.getD k [] = y at *
          generalize sumL (ws.take k) = s at *
          clear g2 g3
          by_cases hy2 : 1048576 < 8 * n + m1 + m2 + s + y.length
          · go_wp2
            go_ret
            exact ⟨rfl, Below.refl _ _⟩
          · go_wp2
            go_round
            case rel => exact ⟨k + 1, by omega, by go_num, by rw [HS1.out]; go_num, by rw [HS1.out]; omega⟩
            case measure => simp [intOf]; omega
        · have HF : Hid (sumL (ws.take k) = S) := by show _ = _; rw [List.take_of_length_le (by rw [HN.out]; omega)]; exact HS.out
          rw [HF.out] at hle ⊢
          clear hsum
          go_wp2_with fail
          refine (cloneAll_any ao cap n ws w HN.out HRD.out HNIL.out (by omega) (fun y hy => by have := sumL_mem ws y hy; have := HS.out; omega)).mono ?_
          rintro e w1 ⟨wa, wcc, rfl, hW1, hg1⟩
          have HW1 : Hid (RdW w1 wa ws) := hW1
          have HG1 : Hid (w.grownBy w1 none) := hg1
          clear hW1 hg1
          go_wp2_with fail
          refine (clone_at a1 c1 l1 m1 w1 E1.out (Rd.grown R1.out HG1.out) Z1.out (by omega)).mono ?_
          rintro e w2 ⟨ma, mc, rfl, hM2, hg2⟩
          have HW2 : Hid (RdW w2 wa ws) := RdW.grown HW1.out hg2
          have HG2 : Hid (w.grownBy w2 none) := grown_trans HG1.out hg2
          have HM2 : Hid (Rd w2 ma l1) := hM2
          clear hM2 hg2 HW1 HG1
          go_wp2_with fail
          refine (clone_at a2 c2 l2 m2 w2 E2.out (Rd.grown R2.out HG2.out) Z2.out (by omega)).mono ?_
          rintro e w3 ⟨sa, sc, rfl, hS3, hg3⟩
          have HW3 : Hid (RdW w3 wa ws) := RdW.grown HW2.out hg3
          have HG3 : Hid (w.grownBy w3 none) := grown_trans HG2.out hg3
          have HM3 : Hid (Rd w3 ma l1) := Rd.grown HM2.out hg3
          have HS3 : Hid (Rd w3 sa l2) := hS3
          clear hS3 hg3 HW2 HG2 HM2
          go_upto_region 18 with fail
          go_cut [76] (fun tv wx => wx = w3.alloc (.cells #[] 5) ∧ ∃ b : Bool, tv = .bool b ∧ (b = true → 0 < m2))
          case first =>
            by_cases hm2 : m2 = 0
            · subst hm2
              go_wp2
              go_meet
              case rel => exact ⟨rfl, false, rfl, fun h => by cases h⟩
            · obtain ⟨b, off, rfl, g⟩ := HS3.out 0 (by have := E2.out; omega)
              have g2 : w3.cell? ⟨b, off, none⟩ = some (.int .u8 (l2.getD 0 0)) := g
              have hb3 : b < w3.heap.size := World.block_lt_of_cell? w3 _ g2
              have hp : (0 : Int) < (m2 : Int) := by omega
              generalize l2.getD 0 0 = s0 at *
              clear g
              go_wp2
              go_meet
              case rel => exact ⟨rfl, _, rfl, fun _ => by omega⟩
          case rest =>
            obtain ⟨rfl, b, rfl, hb⟩ := hcut
            go_upto_if 76 with fail
            go_cut [9] (fun lv wx => ∃ l : List Int, Own wx w3.heap.size lv l ∧ Grew w3 (.slice none 0 0) wx lv ∧ l.length ≤ 4 ∧ Sofar [] l)
            case first =>
              cases b with
              | false =>
                go_wp2
                go_meet
                case rel => exact ⟨[], Run.own_empty w3, Run.grew_empty w3, by simp, Sofar.start⟩
              | true =>
                obtain ⟨b, off, rfl, g⟩ := HS3.out 0 (by have := E2.out; have := hb rfl; omega)
                have g2 : w3.cell? ⟨b, off, none⟩ = some (.int .u8 (l2.getD 0 0)) := g
                have hb3 : b < w3.heap.size := World.block_lt_of_cell? w3 _ g2
                have hp : (0 : Int) < (m2 : Int) := by have := hb rfl; omega
                generalize l2.getD 0 0 = s0 at *
                clear g hb
                go_wp2_with (first | (at_builtin; refine wpList_app Try.underlying22 info5 rfl (.tmp 82) (.tmp 83) rfl w3.heap.size _ [] rfl (Own.alloc (Run.own_empty w3) _) ⟨w3.heap.size + 1, 0, none⟩ 4 4 [9, 13, 10, 32] rfl rfl (by simpa using four_new (w3.alloc (.cells #[] 5)) 9 13 10 32) (by simp) (by simp; omega) ?_; intro v3 w4 hown3 hG3) | (at_builtin; refine wpList_app Try.underlying22 info5 rfl (.tmp 85) (.tmp 86) rfl w3.heap.size _ [] rfl (Own.alloc (Run.own_empty w3) _) ⟨w3.heap.size + 1, 0, none⟩ 3 3 [12, 32, 11] rfl rfl (by simpa using three_new (w3.alloc (.cells #[] 5)) 12 32 11) (by simp) (by simp; omega) ?_; intro v3 w4 hown3 hG3))
                · go_meet
                  case rel => exact ⟨_, hown3, (Run.grew_empty w3).trans ((Grew.alloc _ _ _).trans hG3), by simp, (((Sofar.start.blank 9 (by decide)).blank 13 (by decide)).blank 10 (by decide)).blank 32 (by decide)⟩
                · go_meet
                  case rel => exact ⟨_, hown3, (Run.grew_empty w3).trans ((Grew.alloc _ _ _).trans hG3), by simp, ((Sofar.start.blank 12 (by decide)).blank 32 (by decide)).blank 11 (by decide)⟩
            case rest =>
              obtain ⟨l0, hown0, hG0, hl0, hso0⟩ := hcut
              have HO0 : Hid (Own wc w3.heap.size u9 l0) := hown0
              have HG0 : Hid (Grew w3 (.slice none 0 0) wc u9) := hG0
              have HSO0 : Hid (Sofar [] l0) := hso0
              clear hown0 hG0 hso0 hb
              go_wp2
              go_loopg [9, 10] n (fun g lv iv wr => ∃ (k : Nat) (l : List Int), k ≤ n ∧ g = n - k ∧ iv = .int .i64 k ∧ Own wr w3.heap.size lv l ∧ Grew w3 (.slice none 0 0) wr lv ∧ l.length ≤ 4 + 4 * sumL (ws.take k) + 4 * k ∧ (Sofar (ws.take k) l ∨ (k = n ∧ Final ws l)))
              case atStart => exact ⟨0, l0, by omega, by omega, rfl, HO0.out, HG0.out, by simp [sumL]; omega, .inl (by simpa using HSO0.out)⟩
              case round =>
                obtain ⟨k, l, hk, rfl, rfl, hown, hG, hll, hso⟩ := hrel
                have HO : Hid (Own wr w3.heap.size u9 l) := hown
                have HG : Hid (Grew w3 (.slice none 0 0) wr u9) := hG
                have hgn : w3.grownBy wr none := hG.grown
                have HGN : Hid (w3.grownBy wr none) := hgn
                have hsz : w3.heap.size ≤ wr.heap.size := hgn.size
                have HSO : Hid (Sofar (ws.take k) l ∨ (k = n ∧ Final ws l)) := hso
                clear hown hG hgn hso HO0 HG0 HSO0
                by_cases hlt : k < n
                · have hsofar : Sofar (ws.take k) l := by
                    rcases HSO.out with h | ⟨h, _⟩
                    · exact h
                    · omega
                  have HSF : Hid (Sofar (ws.take k) l) := hsofar
                  obtain ⟨b, off, a, c, rfl, g1, g2⟩ := HW3.out k (by rw [HN.out]; exact hlt)
                  have g1' := HGN.out.cell g1 (by simp)
                  have HAP : Hid (Apart wr a u9 (ws.getD k [])) := apart_of g2 HGN.out HO.out
                  have hyl : (ws.getD k []).length ≤ S := by
                    have := sumL_mem ws (ws.getD k []) (by simp [List.getD, show k < ws.length by rw [HN.out]; exact hlt])
                    have := HS.out
                    omega
                  have hsk : sumL (ws.take k) + (ws.getD k []).length ≤ S := by
                    have := sumL_take ws k (by rw [HN.out]; exact hlt)
                    have := HS.out
                    omega
                  have HBK : Hid (∀ b ∈ ws.getD k [], 0 ≤ b ∧ b ≤ 255) := HBY.out _ (by simp [List.getD, show k < ws.length by rw [HN.out]; exact hlt])
                  have HTS : Hid (ws.take (k + 1) = ws.take k ++ [ws.getD k []]) := take_snocW ws k (by rw [HN.out]; exact hlt)
                  have HT1 : Hid (sumL (ws.take (k + 1)) = sumL (ws.take k) + (ws.getD k []).length) := by show _ = _; rw [HTS.out, sumL_snoc]
                  have hki : (k : Int) < (n : Int) := by omega
                  generalize ws.getD k [] = y at *
                  generalize hsT : sumL (ws.take k) = sT at *
                  clear hsT g1 g2 hsofar HSO
                  have hrel : Hid (∀ (E : List Int) (t : List Int) (w' : World) (v' : Value), Reads E y → E.length ≤ 4 * y.length + 2 → (t = [] ∧ k + 1 = n ∨ ∃ c0 t', t = c0 :: t' ∧ ends c0 = true ∧ t'.length ≤ 1 ∧ ∀ c1 ∈ t', ends c1 = true) → Own w' w3.heap.size v' (l ++ E ++ t) → Grew wr u9 w' v' →
                      ∃ (k' : Nat) (l' : List Int), k' ≤ n ∧ n - (k + 1) = n - k' ∧ Value.int .i64 ((k : Int) + 1) = .int .i64 (k' : Int) ∧ Own w' w3.heap.size v' l' ∧ Grew w3 (.slice none 0 0) w' v' ∧ l'.length ≤ 4 + 4 * sumL (ws.take k') + 4 * k' ∧ (Sofar (ws.take k') l' ∨ (k' = n ∧ Final ws l'))) := by
                    intro E t w' v' hR hEl ht ho hg
                    refine ⟨k + 1, _, by omega, rfl, by simp, ho, HG.out.trans hg, ?_, ?_⟩
                    · have htl : t.length ≤ 2 := by
                        rcases ht with ⟨rfl, _⟩ | ⟨c0, t', rfl, _, h, _⟩
                        · simp
                        · simp; omega
                      have := HT1.out
                      simp only [List.length_append]
                      omega
                    · rw [HTS.out]
                      rcases ht with ⟨rfl, hkn⟩ | ⟨c0, t', rfl, h0, h1, h2⟩
                      · right
                        refine ⟨hkn, ?_⟩
                        have h9 := HSF.out.last hR
                        rw [← HTS.out, List.take_of_length_le (by rw [HN.out]; omega)] at h9
                        rw [List.append_nil]
                        exact h9
                      · left
                        have h3 := HSF.out.next hR c0 h0
                        match t', h1, h2 with
                        | [], _, _ => simpa using h3
                        | [d], _, h2 =>
                          have := h3.blank d (ends_sp d (h2 d (by simp)))
                          simpa using this
                        | _ :: _ :: _, h1, _ => simp at h1
                  have hrel0 : Hid (∀ (E : List Int) (w' : World) (v' : Value), Reads E y → E.length ≤ 4 * y.length + 2 → k + 1 = n → Own w' w3.heap.size v' (l ++ E) → Grew wr u9 w' v' →
                      ∃ (k' : Nat) (l' : List Int), k' ≤ n ∧ n - (k + 1) = n - k' ∧ Value.int .i64 ((k : Int) + 1) = .int .i64 (k' : Int) ∧ Own w' w3.heap.size v' l' ∧ Grew w3 (.slice none 0 0) w' v' ∧ l'.length ≤ 4 + 4 * sumL (ws.take k') + 4 * k' ∧ (Sofar (ws.take k') l' ∨ (k' = n ∧ Final ws l'))) :=
                    fun E w' v' h1 h2 h3 h4 h5 => hrel.out E [] w' v' h1 h2 (.inl ⟨rfl, h3⟩) (by rw [List.append_nil]; exact h4) h5
                  have hrel1 : Hid (∀ (E : List Int) (c0 : Int) (w' : World) (v' : Value), Reads E y → E.length ≤ 4 * y.length + 2 → Own w' w3.heap.size v' (l ++ E ++ [c0]) → Grew wr u9 w' v' → ends c0 = true →
                      ∃ (k' : Nat) (l' : List Int), k' ≤ n ∧ n - (k + 1) = n - k' ∧ Value.int .i64 ((k : Int) + 1) = .int .i64 (k' : Int) ∧ Own w' w3.heap.size v' l' ∧ Grew w3 (.slice none 0 0) w' v' ∧ l'.length ≤ 4 + 4 * sumL (ws.take k') + 4 * k' ∧ (Sofar (ws.take k') l' ∨ (k' = n ∧ Final ws l'))) :=
                    fun E c0 w' v' h1 h2 h4 h5 h6 => hrel.out E [c0] w' v' h1 h2 (.inr ⟨c0, [], rfl, h6, by simp, by simp⟩) h4 h5
                  have hrel2 : Hid (∀ (E : List Int) (c0 c1 : Int) (w' : World) (v' : Value), Reads E y → E.length ≤ 4 * y.length + 2 → Own w' w3.heap.size v' (l ++ E ++ [c0] ++ [c1]) → Grew wr u9 w' v' → ends c0 = true → ends c1 = true →
                      ∃ (k' : Nat) (l' : List Int), k' ≤ n ∧ n - (k + 1) = n - k' ∧ Value.int .i64 ((k : Int) + 1) = .int .i64 (k' : Int) ∧ Own w' w3.heap.size v' l' ∧ Grew w3 (.slice none 0 0) w' v' ∧ l'.length ≤ 4 + 4 * sumL (ws.take k') + 4 * k' ∧ (Sofar (ws.take k') l' ∨ (k' = n ∧ Final ws l'))) :=
                    fun E c0 c1 w' v' h1 h2 h4 h5 h6 h7 => hrel.out E [c0, c1] w' v' h1 h2 (.inr ⟨c0, [c1], rfl, h6, by simp, by simp; exact h7⟩) (by rw [List.append_assoc] at h4; exact h4) h5
                  go_upto_if 96 with fail
                  go_cut [11] (fun mv wx => wx = wr ∧ ∃ m : Int, mv = .int .u8 m)
                  case first =>
                    by_cases hm0 : m1 = 0
                    · subst hm0
                      go_wp2
                      go_meet
                      case rel => exact ⟨rfl, _, rfl⟩
                    · obtain ⟨bm, om, rfl, gm⟩ := HM3.out (k % m1) (by rw [E1.out]; exact Nat.mod_lt _ (by omega))
                      have gmr := HGN.out.cell gm (by simp)
                      generalize l1.getD (k % m1) 0 = mv at *
                      have hmodb1 : k % m1 < m1 := Nat.mod_lt _ (by omega)
                      have hmodi1 : ((k % m1 : Nat) : Int) < (m1 : Int) := by omega
                      have hp1 : (0 : Int) < (m1 : Int) := by omega
                      clear gm
                      go_wp2
                      go_meet
                      case rel => exact ⟨rfl, _, rfl⟩
                  case rest =>
                    obtain ⟨hwc, m, rfl⟩ := hcut
                    obtain rfl := hwc.symm
                    clear hwc
                    go_wp2_with fail
                    refine (encode_any w3.heap.size _ l a c y.length y m _ rfl HO.out (by omega) HAP.out HBK.out (by omega)).mono ?_
                    rintro e w4 ⟨v4, rfl, ho4, hG4⟩
                    obtain ⟨E, hRE, hLE, hoE⟩ : ∃ E, Reads E y ∧ E.length ≤ 4 * y.length + 2 ∧ Own w4 w3.heap.size v4 (l ++ E) := ⟨_, encW_reads _ y HBK.out, encW_len _ y, ho4⟩
                    have HO4 : Hid (Own w4 w3.heap.size v4 (l ++ E)) := hoE
                    have HG4 : Hid (Grew _ _ w4 v4) := hG4
                    have HGN4 : Hid (w3.grownBy w4 none) := (HG.out.trans hG4).grown
                    have hs4 : w3.heap.size ≤ w4.heap.size := HGN4.out.size
                    clear ho4 hG4 hoE
                    go_upto_if 114 with fail
                    go_cut [12] (fun sv wx => wx = w4 ∧ ∃ s : Int, sv = .int .u8 s)
                    case first =>
                      by_cases hs0 : m2 = 0
                      · subst hs0
                        go_wp2
                        go_meet
                        case rel => exact ⟨rfl, _, rfl⟩
                      · obtain ⟨bs, os, rfl, gs⟩ := HS3.out (k % m2) (by rw [E2.out]; exact Nat.mod_lt _ (by omega))
                        have gs4 := HGN4.out.cell gs (by simp)
                        generalize l2.getD (k % m2) 0 = sv at *
                        have hmodb : k % m2 < m2 := Nat.mod_lt _ (by omega)
                        have hmodi : ((k % m2 : Nat) : Int) < (m2 : Int) := by omega
                        have hp2 : (0 : Int) < (m2 : Int) := by omega
                        clear gs
                        go_wp2
                        go_meet
                        case rel => exact ⟨rfl, _, rfl⟩
                    case rest =>
                      obtain ⟨hwc, sv, rfl⟩ := hcut
                      obtain rfl := hwc.symm
                      clear hwc
                      by_cases hk1 : k + 1 < n
                      · go_wp2_with (first | (go_at_call 18; refine (sepByte_any _ _).mono ?_; rintro e w' ⟨⟨cc, rfl, hcc⟩, hw⟩; obtain rfl := hw.symm) | (at_builtin; refine wpList_app Try.underlying22 info5 rfl (.tmp 132) (.tmp 135) rfl w3.heap.size _ (l ++ E) rfl (Own.alloc HO4.out _) ⟨w4.heap.size, 0, none⟩ 1 1 [_] rfl rfl (one_new _ _) (by rw [List.length_append]; simp; omega) (by simp; omega) ?_; intro v5 w5 hown5 hG5; have hs5 : w3.heap.size ≤ w5.heap.size := by (have := hG5.size; simp at this; omega)) | (at_builtin; refine wpList_app Try.underlying22 info5 rfl (.tmp 140) (.tmp 144) rfl w3.heap.size _ _ rfl (Own.alloc hown5 _) ⟨w5.heap.size, 0, none⟩ 1 1 [_] rfl rfl (one_new _ _) (by rw [List.length_append, List.length_append]; simp; omega) (by simp; omega) ?_; intro v6 w6 hown6 hG6))
                        all_goals
                          go_roundg (n - (k + 1))
                          case measure => omega
                          case rel => first | exact hrel2.out E _ _ w6 v6 hRE hLE hown6 (HG4.out.trans (((Grew.alloc _ _ _).trans hG5).trans ((Grew.alloc _ _ _).trans hG6))) (by assumption) (by assumption) | exact hrel1.out E _ w5 v5 hRE hLE hown5 (HG4.out.trans ((Grew.alloc _ _ _).trans hG5)) (by assumption) | (refine hrel0.out E w4 v4 hRE hLE ?_ HO4.out HG4.out; omega)
                      · go_wp2_with (first | (go_at_call 18; refine (sepByte_any _ _).mono ?_; rintro e w' ⟨⟨cc, rfl, hcc⟩, hw⟩; obtain rfl := hw.symm) | (at_builtin; refine wpList_app Try.underlying22 info5 rfl (.tmp 132) (.tmp 135) rfl w3.heap.size _ (l ++ E) rfl (Own.alloc HO4.out _) ⟨w4.heap.size, 0, none⟩ 1 1 [_] rfl rfl (one_new _ _) (by rw [List.length_append]; simp; omega) (by simp; omega) ?_; intro v5 w5 hown5 hG5; have hs5 : w3.heap.size ≤ w5.heap.size := by (have := hG5.size; simp at this; omega)) | (at_builtin; refine wpList_app Try.underlying22 info5 rfl (.tmp 140) (.tmp 144) rfl w3.heap.size _ _ rfl (Own.alloc hown5 _) ⟨w5.heap.size, 0, none⟩ 1 1 [_] rfl rfl (one_new _ _) (by rw [List.length_append, List.length_append]; simp; omega) (by simp; omega) ?_; intro v6 w6 hown6 hG6))
                        all_goals
                          go_roundg (n - (k + 1))
                          case measure => omega
                          case rel => first | exact hrel2.out E _ _ w6 v6 hRE hLE hown6 (HG4.out.trans (((Grew.alloc _ _ _).trans hG5).trans ((Grew.alloc _ _ _).trans hG6))) (by assumption) (by assumption) | exact hrel1.out E _ w5 v5 hRE hLE hown5 (HG4.out.trans ((Grew.alloc _ _ _).trans hG5)) (by assumption) | (refine hrel0.out E w4 v4 hRE hLE ?_ HO4.out HG4.out; omega)
                · have hkn : k = n := by omega
                  have hfin : Final ws l := by
                    rcases HSO.out with h | ⟨_, h⟩
                    · rw [List.take_of_length_le (by rw [HN.out]; omega)] at h
                      exact h.final
                    · exact h
                  have HR : Hid (splitF (l.length + 1) l 0 [] = some ws) := hfin _ (by omega)
                  have hll2 : l.length ≤ 16777216 := by
                    rw [List.take_of_length_le (by rw [HN.out]; omega), HS.out] at hll
                    omega
                  obtain ⟨la, lb, lcap, rfl, hlt2, hla2, _, hcell2⟩ := line_form HO.out
                  have HLT : Hid (l ≠ [] → lb < wr.heap.size) := hlt2
                  have HLA : Hid (l ≠ [] → la = some ⟨lb, 0, none⟩) := hla2
                  have HLC : Hid (∀ j, j < l.length → wr.cell? ⟨lb, j, none⟩ = some (.int .u8 (l.getD j 0))) := hcell2
                  have HWR : Hid (RdW wr wa ws) := RdW.grown HW3.out HGN.out
                  have HGR : Hid (w.grownBy wr none) := grown_trans HG3.out HGN.out
                  clear hfin hll hlt2 hla2 hcell2 HSO HO HG HGN
                  go_wp2_with fail
                  refine (zzSplit_any la lb l.length lcap l wr rfl HLT.out HLA.out HLC.out hll2).mono ?_
                  intro e w5 hp
                  rw [HR.out] at hp
                  obtain ⟨hg5, ga, gc, he5, hW5⟩ := hp
                  rw [HN.out] at he5
                  subst he5
                  have HA : Hid (RdW w5 ga ws) := hW5
                  have HB : Hid (RdW w5 wa ws) := RdW.grown HWR.out hg5
                  have HG5 : Hid (w.grownBy w5 none) := grown_trans HGR.out hg5
                  clear hg5 hW5 HWR HGR
                  have hbl : ((n : Int) == (n : Int)) = true := by simp
                  go_wp2
                  go_loopw [15] (fun iv wq => ∃ q : Nat, q ≤ n ∧ iv = .int .i64 q ∧ ∃ nn, wq = w5.drewN nn) (fun iv _ => n - (intOf iv).toNat)
                  case atStart => exact ⟨0, by omega, rfl, 0, rfl⟩
                  case round =>
                    obtain ⟨q, hq, rfl, nn, rfl⟩ := hrel
                    by_cases hlt : q < n
                    · obtain ⟨b, off, a, cc, rfl, g1, g2⟩ := HA.out q (by rw [HN.out]; exact hlt)
                      obtain ⟨b3, off3, a3, cc3, rfl, g3, g4⟩ := HB.out q (by rw [HN.out]; exact hlt)
                      have hyl : (ws.getD q []).length ≤ 1099511627776 := by
                        have := sumL_mem ws (ws.getD q []) (by simp [List.getD, show q < ws.length by rw [HN.out]; exact hlt])
                        have := HS.out
                        omega
                      generalize ws.getD q [] = y at *
                      have hki : (q : Int) < (n : Int) := by omega
                      have hyy : (y == y) = true := by simp
                      have HY : Hid (y.length ≤ 1099511627776) := hyl
                      have G2 : Hid (Rd w5 a y) := g2
                      have G4 : Hid (Rd w5 a3 y) := g4
                      clear hyl g2 g4
                      go_wp2
                      go_quiet ((go_at_call 14; exact quiet_at (same_any a a3 cc cc3 y y _ HY.out (by exact G2.out) (by exact G4.out))))
                      go_wp2
                      go_roundw
                      case rel => exact ⟨q + 1, by omega, by go_num, _, by first | rfl | rw [World.drewN_drewN]⟩
                      case measure => simp [intOf]; omega
                    · go_wp2
                      go_ret
                      exact ⟨rfl, below_drewN (below_of_grown HG5.out) nn⟩
end Go.Proofs.Qxb6600352a.Top
