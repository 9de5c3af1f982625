/-
  zzEncodeWord's contract.
-/
import Derived.Test.Qxb6600352aEnc
namespace Go.Proofs.Qxb6600352a.Enc
open Go.RowKit
open Go.Proofs.Qxb6600352a.Plain Go.Proofs.Qxb6600352a.Mem Go.Proofs.Qxb6600352a.Base Go.Proofs.Qxb6600352a.Leaf
set_option linter.unusedVariables false
set_option linter.unusedSimpArgs false

/-- The word lies apart from the slice that grows. -/
def Apart (w : World) (wa : Option Addr) (lv : Value) (x : List Int) : Prop :=
  ∀ j, j < x.length → ∃ b off, wa = some ⟨b, off, none⟩ ∧ b < w.heap.size ∧ lv.ownBlock ≠ some b ∧ w.cell? ⟨b, off + j, none⟩ = some (.int .u8 (x.getD j 0))

theorem Apart.rd {w : World} {wa : Option Addr} {lv : Value} {x : List Int} (h : Apart w wa lv x) : Rd w wa x := fun j hj => by
  obtain ⟨b, off, e, _, _, hc⟩ := h j hj
  exact ⟨b, off, e, hc⟩
theorem Apart.grew {w w' : World} {wa : Option Addr} {lv lv' : Value} {x : List Int} (h : Apart w wa lv x) (g : Grew w lv w' lv') : Apart w' wa lv' x := fun j hj => by
  obtain ⟨b, off, e, hb, hne, hc⟩ := h j hj
  refine ⟨b, off, e, Nat.lt_of_lt_of_le hb g.size, ?_, (g.cell (a := ⟨b, off + j, none⟩) hb hne).trans hc⟩
  rcases g.lies with e2 | e2
  · rw [e2]; exact hne
  · intro e3; have := e2 b e3; omega

theorem mixed_at (k : Nat) (h : k < 16) : ((({ data := #[48, 49, 50, 51, 52, 53, 54, 55, 56, 57, 97, 66, 99, 68, 101, 70] } : ByteArray)[k]'h).toNat : Int) = dig k := by
  have H : ∀ k : Fin 16, ((({ data := #[48, 49, 50, 51, 52, 53, 54, 55, 56, 57, 97, 66, 99, 68, 101, 70] } : ByteArray)[k.1]'k.2).toNat : Int) = dig k.1 := by decide
  exact H ⟨k, h⟩
theorem and15 (c : Int) (h0 : 0 ≤ c) (h1 : c ≤ 255) : bits BinOp.and IntKind.u8 c 15 = ((c.toNat % 16 : Nat) : Int) := by
  have H : ∀ x : Fin 256, bits BinOp.and IntKind.u8 ((x.1 : Nat) : Int) 15 = ((x.1 % 16 : Nat) : Int) := by decide +kernel
  have h := H ⟨c.toNat, by omega⟩
  simp only [Int.toNat_of_nonneg h0] at h
  exact h
theorem four_new (w : World) (x y z t : Int) : ∀ j, j < [x, y, z, t].length → (w.alloc (.cells #[.int .u8 x, .int .u8 y, .int .u8 z, .int .u8 t] 5)).cell? ((⟨w.heap.size, 0, none⟩ : Addr).add j) = some (.int .u8 ([x, y, z, t].getD j 0)) := by
  intro j hj
  match j, hj with
  | 0, _ => simp [Addr.add]
  | 1, _ => simp [Addr.add]
  | 2, _ => simp [Addr.add]
  | 3, _ => simp [Addr.add]
  | j + 4, hj => simp at hj; omega
theorem take_snoc (x : List Int) (k : Nat) (h : k < x.length) : x.take (k + 1) = x.take k ++ [x.getD k 0] := by
  rw [List.take_succ_eq_append_getElem h]; simp [h]

set_option maxHeartbeats 1000000 in
set_option maxRecDepth 100000 in
theorem encode_quoted (base : Nat) (lv : Value) (l : List Int) (wa : Option Addr) (wcap n : Nat) (x : List Int) (m : Int) (w : World) (hn : x.length = n) (hown : Own w base lv l) (hbase : base ≤ w.heap.size) (hap : Apart w wa lv x)
    (hby : ∀ b ∈ x, 0 ≤ b ∧ b ≤ 255) (hlen : l.length + 8 * n ≤ 1099511627) (hm : ¬ (m = 2 ∧ bareable x = true)) :
    Calls Try.prog 17 #[lv, .slice wa n wcap, .int .u8 m] w fun e w' => ∃ v', e = .returned v' ∧ Own w' base v' (l ++ encW m x) ∧ Grew w lv w' v' := by
  have HN : Hid (x.length = n) := hn
  have HA : Hid (Apart w wa lv x) := hap
  have HY : Hid (∀ b ∈ x, 0 ≤ b ∧ b ≤ 255) := hby
  have HE : Hid (encW m x = 34 :: ((if m = 1 then hexs x else escs x) ++ [34])) := by show _ = _; unfold encW; rw [if_neg hm]
  have HB : Hid (bareable x = true → ¬ m = 2) := fun h1 h2 => hm ⟨h2, h1⟩
  clear hn hap hby hm
  have hbare : ¬ m = 2 ∨ bareable x = false := by
    cases hb : bareable x with
    | false => exact .inr rfl
    | true => exact .inl (HB.out hb)
  obtain ⟨P, hP⟩ : ∃ P : Nat → List Int, P = fun k => if m = 1 then hexs (x.take k) else escs (x.take k) := ⟨_, rfl⟩
  have HP : Hid (P = fun k => if m = 1 then hexs (x.take k) else escs (x.take k)) := hP
  have HPL : Hid (∀ k, (P k).length ≤ 4 * k) := by
    intro k
    rw [hP]
    have h1 := hexs_len (x.take k)
    have h2 := escs_len (x.take k)
    have h3 : (x.take k).length ≤ k := List.length_take_le _ _
    dsimp only
    split <;> omega
  have HP0 : Hid (P 0 = []) := by
    show _ = _
    rw [hP]; dsimp only; split <;> rfl
  clear hP
  have hbb : (m == 2) = false ∨ ((m == 2) = true ∧ bareable x = false) := by
    by_cases hm2 : m = 2
    · right
      exact ⟨by simpa using hm2, by rcases hbare with h | h; exact absurd hm2 h; exact h⟩
    · left
      simpa using hm2
  clear hbare
  rcases hbb with b2 | ⟨b2, hb0⟩
  all_goals
    go_enter Try.func17, Try.ntmps17
    go_wp2_with (first | (go_at_call 30; refine (bare_any wa wcap n x _ HN.out (by omega) HA.out.rd).mono ?_; rintro e w' ⟨rfl, hw⟩; obtain rfl := hw.symm) | (at_builtin; refine wpList_app Try.underlying22 info5 rfl _ _ rfl base lv l rfl (Own.alloc hown _) ⟨w.heap.size, 0, none⟩ 1 1 [34] rfl rfl (one_new _ _) (by simp; omega) (by simp; omega) ?_; intro v1 w1 hown1 hG1))
    go_loopw [0, 7] (fun rv iv wr => ∃ k : Nat, k ≤ n ∧ iv = .int .i64 k ∧ Own wr base rv (l ++ 34 :: P k) ∧ Grew w lv wr rv) (fun _ iv _ => n - (intOf iv).toNat)
    case atStart => exact ⟨0, by omega, rfl, by rw [HP0.out]; exact hown1, (Grew.alloc _ _ _).trans hG1⟩
    case round =>
      obtain ⟨k, hk, rfl, hown2, hG⟩ := hrel
      have hpl := HPL.out k
      have hsz : base ≤ wr.heap.size := by have := hG.size; omega
      by_cases hlt : k < n
      · obtain ⟨b, off, rfl, hb, hne, hc⟩ := (HA.out.grew hG) k (by rw [HN.out]; exact hlt)
        obtain ⟨c, hcx⟩ : ∃ c, x.getD k 0 = c := ⟨_, rfl⟩
        rw [hcx] at hc
        have hcb : 0 ≤ c ∧ c ≤ 255 := HY.out c (by rw [← hcx]; simp [List.getD, show k < x.length by rw [HN.out]; exact hlt])
        have hc0 : 0 ≤ c := hcb.1
        have hc1 : c ≤ 255 := hcb.2
        have HX : Hid (x.getD k 0 = c) := hcx
        clear hcb hcx hown1 hG1
        have hts : x.take (k + 1) = x.take k ++ [c] := by rw [take_snoc x k (by rw [HN.out]; exact hlt), HX.out]
        by_cases hm1 : m = 1
        · have bm : (m == 1) = true := by simpa using hm1
          have HS : Hid (P (k + 1) = P k ++ [92, 120, dig (c.toNat / 16), dig (c.toNat % 16)]) := by
            show _ = _
            rw [HP.out]
            simp only [if_pos hm1]
            rw [hts]
            simp [hexs, hexB]
          obtain ⟨k1, hk1, hk1b, HK1⟩ : ∃ k1 : Nat, c / 16 = (k1 : Int) ∧ k1 < 16 ∧ Hid (k1 = c.toNat / 16) := ⟨c.toNat / 16, by omega, by omega, rfl⟩
          obtain ⟨k2, hk2, hk2b, HK2⟩ : ∃ k2 : Nat, c % 16 = (k2 : Int) ∧ k2 < 16 ∧ Hid (k2 = c.toNat % 16) := ⟨c.toNat % 16, by omega, by omega, rfl⟩
          rw [← HK1.out, ← HK2.out] at HS
          have hbit : bits BinOp.and IntKind.u8 c 15 = (k2 : Int) := by rw [and15 c hc0 hc1, ← HK2.out]
          have hv1 := mixed_at k1 hk1b
          have hv2 := mixed_at k2 hk2b
          have i1 : (k1 : Int) < 16 := by omega
          have i2 : (k2 : Int) < 16 := by omega
          clear hts hm1
          go_wp2
          go_region_held3 (fun w' => True) (trivial) ((first | (refine step_app Try.underlying22 info5 (by rfl) _ _ (by rfl) base _ (l ++ 34 :: P k) (by rfl) ((Own.alloc hown2 _).drew) ⟨wr.heap.size, 0, none⟩ 4 4 [92, 120, dig k1, dig k2] (by rfl) (by rfl) (four_new _ _ _ _ _) (by simp; omega) (by simp; omega) ?_; intro v3 w3 hown3 hG3)))
          all_goals
            go_wp2
            go_roundw
            case rel =>
              refine ⟨k + 1, by omega, by go_num, ?_, hG.trans (((Grew.alloc _ _ _).trans (Grew.drew _ _)).trans hG3)⟩
              rw [HS.out]
              have e : l ++ 34 :: (P k ++ [92, 120, dig k1, dig k2]) = (l ++ 34 :: P k) ++ [92, 120, dig k1, dig k2] := by simp
              rw [e]
              exact hown3
            case measure => simp [intOf]; omega
        · have bm : (m == 1) = false := by simpa using hm1
          have HS : Hid (P (k + 1) = P k ++ escB c) := by
            show _ = _
            rw [HP.out]
            simp only [if_neg hm1]
            rw [hts]
            simp [escs]
          clear hts hm1
          by_cases hq : c = 34 ∨ c = 92
          · have HE2 : Hid (escB c = [92, c]) := by show _ = _; simp [escB, hq]
            rcases hq with rfl | rfl
            all_goals
              go_wp2_with (first | (at_builtin; refine wpList_app Try.underlying22 info5 rfl (.tmp 48) (.tmp 49) rfl base _ (l ++ 34 :: P k) rfl (Own.alloc hown2 _) ⟨wr.heap.size, 0, none⟩ 1 1 [92] rfl rfl (one_new _ _) (by simp; omega) (by simp; omega) ?_; intro v3 w3 hown3 hG3; have hs3 : base ≤ w3.heap.size := by (have := hG3.size; simp at this; omega)) | (at_builtin; refine wpList_app Try.underlying22 info5 rfl (.tmp 51) (.tmp 53) rfl base _ ((l ++ 34 :: P k) ++ [92]) rfl (Own.alloc hown3 _) ⟨w3.heap.size, 0, none⟩ 1 1 [_] rfl rfl (one_new _ _) (by simp; omega) (by simp; omega) ?_; intro v4 w4 hown4 hG4))
              go_roundw
              case rel =>
                refine ⟨k + 1, by omega, by go_num, ?_, hG.trans (((Grew.alloc _ _ _).trans hG3).trans ((Grew.alloc _ _ _).trans hG4))⟩
                rw [HS.out, HE2.out]
                simpa using hown4
              case measure => simp [intOf]; omega
          · have HE2 : Hid (escB c = [c]) := by show _ = _; simp [escB, hq]
            have b34 : (c == 34) = false := by simp; omega
            have b92 : (c == 92) = false := by simp; omega
            clear hq
            go_wp2_with (first | (at_builtin; refine wpList_app Try.underlying22 info5 rfl _ _ rfl base _ (l ++ 34 :: P k) rfl (Own.alloc hown2 _) ⟨wr.heap.size, 0, none⟩ 1 1 [c] rfl rfl (one_new _ _) (by simp; omega) (by simp; omega) ?_; intro v3 w3 hown3 hG3))
            go_roundw
            case rel =>
              refine ⟨k + 1, by omega, by go_num, ?_, hG.trans ((Grew.alloc _ _ _).trans hG3)⟩
              rw [HS.out, HE2.out]
              have e : l ++ 34 :: (P k ++ [c]) = (l ++ 34 :: P k) ++ [c] := by simp
              rw [e]
              exact hown3
            case measure => simp [intOf]; omega
      · have HF : Hid (l ++ encW m x = (l ++ 34 :: P k) ++ [34]) := by
          show _ = _
          rw [HE.out, HP.out]
          dsimp only
          rw [List.take_of_length_le (by rw [HN.out]; omega)]
          simp
        clear hown1 hG1
        go_wp2_with (first | (at_builtin; refine wpList_app Try.underlying22 info5 rfl _ _ rfl base _ (l ++ 34 :: P k) rfl (Own.alloc hown2 _) ⟨wr.heap.size, 0, none⟩ 1 1 [34] rfl rfl (one_new _ _) (by simp; omega) (by simp; omega) ?_; intro v3 w3 hown3 hG3))
        go_ret
        refine ⟨_, rfl, ?_, hG.trans ((Grew.alloc _ _ _).trans hG3)⟩
        rw [HF.out]
        exact hown3

set_option maxHeartbeats 400000 in
theorem encode_bare (base : Nat) (lv : Value) (l : List Int) (wa : Option Addr) (wcap n : Nat) (x : List Int) (w : World) (hn : x.length = n) (hown : Own w base lv l) (hbase : base ≤ w.heap.size) (hap : Apart w wa lv x)
    (hlen : l.length + 8 * n ≤ 1099511627) (hb : bareable x = true) :
    Calls Try.prog 17 #[lv, .slice wa n wcap, .int .u8 2] w fun e w' => ∃ v', e = .returned v' ∧ Own w' base v' (l ++ x) ∧ Grew w lv w' v' := by
  have HN : Hid (x.length = n) := hn
  have HA : Hid (Apart w wa lv x) := hap
  have hpos : 0 < n := by
    have := ((bareable_iff x).1 hb).1
    rw [← hn]
    cases x with
    | nil => exact absurd rfl this
    | cons _ _ => simp
  obtain ⟨b, off, rfl, _⟩ := hap 0 (by rw [hn]; exact hpos)
  have HC : Hid (∀ j, j < x.length → w.cell? ((⟨b, off, none⟩ : Addr).add j) = some (.int .u8 (x.getD j 0))) := by
    intro j hj
    obtain ⟨b', off', e, _, _, hc⟩ := HA.out j hj
    cases e
    rw [Addr.add_lit]
    exact hc
  clear hn hap
  go_enter Try.func17, Try.ntmps17
  go_wp2_with (first | (go_at_call 30; refine (bare_any _ wcap n x _ HN.out (by omega) HA.out.rd).mono ?_; rintro e w' ⟨rfl, hw⟩; obtain rfl := hw.symm) | (at_builtin; refine wpList_app Try.underlying22 info5 rfl _ _ rfl base lv l rfl hown ⟨b, off, none⟩ n wcap x HN.out.symm rfl HC.out (by rw [HN.out]; omega) hbase ?_; intro v1 w1 hown1 hG1))
  go_ret
  exact ⟨_, rfl, hown1, hG1⟩

theorem encode_any (base : Nat) (lv : Value) (l : List Int) (wa : Option Addr) (wcap n : Nat) (x : List Int) (m : Int) (w : World) (hn : x.length = n) (hown : Own w base lv l) (hbase : base ≤ w.heap.size) (hap : Apart w wa lv x)
    (hby : ∀ b ∈ x, 0 ≤ b ∧ b ≤ 255) (hlen : l.length + 8 * n ≤ 1099511627) :
    Calls Try.prog 17 #[lv, .slice wa n wcap, .int .u8 m] w fun e w' => ∃ v', e = .returned v' ∧ Own w' base v' (l ++ encW m x) ∧ Grew w lv w' v' := by
  by_cases h : m = 2 ∧ bareable x = true
  · have he : encW m x = x := by unfold encW; rw [if_pos h]
    rw [he, h.1]
    exact encode_bare base lv l wa wcap n x w hn hown hbase hap hlen h.2
  · exact encode_quoted base lv l wa wcap n x m w hn hown hbase hap hby hlen h
end Go.Proofs.Qxb6600352a.Enc
