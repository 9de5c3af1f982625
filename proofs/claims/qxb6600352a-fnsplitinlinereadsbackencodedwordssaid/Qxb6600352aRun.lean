/-
  zzRun computes 'run'.
-/
import Derived.Test.Qxb6600352aQuoted
namespace Go.Proofs.Qxb6600352a.Run
open Go.RowKit
open Go.Proofs.Qxb6600352a.Plain Go.Proofs.Qxb6600352a.Mem Go.Proofs.Qxb6600352a.Base Go.Proofs.Qxb6600352a.Leaf Go.Proofs.Qxb6600352a.Quoted
set_option linter.unusedVariables false
set_option linter.unusedSimpArgs false

theorem own_empty (w : World) : Own (w.alloc (.cells #[] 5)) w.heap.size (.slice (some ⟨w.heap.size, 0, none⟩) 0 0) [] :=
  World.ownsRow_made w #[] 0 (Nat.le_refl _) (by unfold maxLen; omega) rfl
theorem grew_empty (w : World) : Grew w (.slice none 0 0) (w.alloc (.cells #[] 5)) (.slice (some ⟨w.heap.size, 0, none⟩) 0 0) :=
  ⟨World.grownBy_alloc _ _ _, .inr fun g hg => by cases hg; exact Nat.le_refl _, Nat.le_refl _, fun h => absurd rfl h, fun g cur h => by cases h⟩

set_option maxHeartbeats 1000000 in
set_option maxRecDepth 100000 in
theorem run_any (la : Option Addr) (lb cap : Nat) (l : List Int) (i st0 : Nat) (q0 : Int) (w : World) (hst0 : st0 ≤ 1) (hlb : l ≠ [] → lb < w.heap.size) (hla : l ≠ [] → la = some ⟨lb, 0, none⟩)
    (hl : ∀ j, j < l.length → w.cell? ⟨lb, j, none⟩ = some (.int .u8 (l.getD j 0))) (hlen : l.length ≤ 1099511627) :
    Calls Try.prog 22 #[.slice la l.length cap, .int .i64 i, .int .i64 st0, .int .u8 q0] w (PostQ w w.heap.size (.slice none 0 0) (run (l.drop i) st0 q0 0 [] i)) := by
  obtain ⟨R, hR⟩ : ∃ R, run (l.drop i) st0 q0 0 [] i = R := ⟨_, rfl⟩
  rw [hR]
  have HR : Hid (run (l.drop i) st0 q0 0 [] i = R) := hR
  clear hR
  have Hla : Hid (l ≠ [] → la = some ⟨lb, 0, none⟩) := hla
  have Hlb : Hid (l ≠ [] → lb < w.heap.size) := hlb
  clear hla hlb
  go_enter Try.func22, Try.ntmps22
  go_wp2
  go_loopw [1, 2, 3, 11, 12] (fun kv sv qv tv fv wr => ∃ (k st : Nat) (q f : Int) (t : List Int), st ≤ 4 ∧ kv = .int .i64 k ∧ sv = .int .i64 st ∧ qv = .int .u8 q ∧ fv = .int .u8 f ∧ Own wr w.heap.size tv t ∧ Grew w (.slice none 0 0) wr tv ∧ t.length + (st - 1) ≤ k ∧ (st = 4 → isHx f = true) ∧ run (l.drop k) st q f t k = R)
    (fun kv sv _ _ _ _ => 2 * (l.length - (intOf kv).toNat) + (if 2 ≤ intOf sv then 1 else 0))
  case atStart => exact ⟨i, st0, q0, 0, [], by omega, rfl, rfl, rfl, rfl, own_empty w, grew_empty w, by simp; omega, by omega, HR.out⟩
  case round =>
    obtain ⟨k, st, q, f, t, hst, rfl, rfl, rfl, rfl, hown1, hG, htl, hf, hE⟩ := hrel
    have HE : Hid (run (l.drop k) st q f t k = R) := hE
    clear hE HR
    by_cases hlt : k < l.length
    · have hnn : l ≠ [] := by rintro rfl; simp at hlt
      obtain rfl := Hla.out hnn
      have hlb := Hlb.out hnn
      clear hnn Hla Hlb
      have hcl : ∀ j, j < l.length → wr.cell? ⟨lb, j, none⟩ = some (.int .u8 (l.getD j 0)) := fun j hj => (hG.cell (a := ⟨lb, j, none⟩) hlb (by simp [Value.ownBlock])).trans (hl j hj)
      have hsz : w.heap.size ≤ wr.heap.size := hG.size
      have ec := hcl k hlt
      obtain ⟨c, hc⟩ : ∃ c, l.getD k 0 = c := ⟨_, rfl⟩
      rw [hc] at ec
      have HD : Hid (l.drop k = c :: l.drop (k + 1)) := by show _ = _; rw [← hc]; exact drop_cons l k hlt
      have HL : Hid (∀ j, j < l.length → wr.cell? ⟨lb, j, none⟩ = some (.int .u8 (l.getD j 0))) := hcl
      clear hcl hc hl
      match st, hst, htl, hf, HE with
      | 0, hst, htl, hf, HE =>
        clear hst hf
        have HE1 : Hid (R = if ends c = true then some (t, k) else if c = 34 ∨ c = 39 then run (l.drop (k + 1)) 1 c f t (k + 1) else run (l.drop (k + 1)) 0 q f (t ++ [c]) (k + 1)) := by
          show _ = _; rw [← HE.out, HD.out, run_0]
        cases he : ends c with
        | true =>
          go_wp2_with (first | (go_at_call 32; refine (ends_any _ _).mono ?_; rintro e w' ⟨rfl, hw⟩; obtain rfl := hw.symm))
          go_ret3
          rw [HE1.out, if_pos he]
          exact ⟨_, rfl, hown1, hG⟩
        | false =>
          by_cases hq : c = 34 ∨ c = 39
          · have HE2 : Hid (run (l.drop (k + 1)) 1 c f t (k + 1) = R) := by show _ = _; rw [HE1.out, if_neg (by simp [he]), if_pos hq]
            rcases hq with rfl | rfl
            all_goals
              go_wp2_with (first | (go_at_call 32; refine (ends_any _ _).mono ?_; rintro e w' ⟨rfl, hw⟩; obtain rfl := hw.symm))
              go_roundw
              case rel => exact ⟨k + 1, 1, _, f, t, by omega, by go_num, rfl, rfl, rfl, hown1, hG, by omega, by omega, HE2.out⟩
              case measure => simp [intOf] <;> omega
          · have HE2 : Hid (run (l.drop (k + 1)) 0 q f (t ++ [c]) (k + 1) = R) := by show _ = _; rw [HE1.out, if_neg (by simp [he]), if_neg hq]
            have b1 : (c == 34) = false := by simp; omega
            have b2 : (c == 39) = false := by simp; omega
            clear hq
            go_wp2_with (first | (go_at_call 32; refine (ends_any _ _).mono ?_; rintro e w' ⟨rfl, hw⟩; obtain rfl := hw.symm) | (at_builtin; refine wpList_app Try.underlying22 info5 rfl _ _ rfl w.heap.size _ t rfl (Own.alloc hown1 _) ⟨wr.heap.size, 0, none⟩ 1 1 [c] rfl rfl (one_new _ _) (by simp; omega) (by simp; omega) ?_; intro v' w1 hown2 hG2))
            go_roundw
            case rel => exact ⟨k + 1, 0, q, f, t ++ [c], by omega, by go_num, rfl, rfl, rfl, hown2, hG.trans ((Grew.alloc _ _ _).trans hG2), by simp; omega, by omega, HE2.out⟩
            case measure => simp [intOf] <;> omega
      | 1, hst, htl, hf, HE =>
        clear hst hf
        have HE1 : Hid (R = if c = q then (if (l.drop (k + 1)).head?.any (fun d => !isSp d) = true then none else some (t, k + 1)) else if c = 92 ∧ (q = 34 ∨ q = 39) then run (l.drop (k + 1)) 2 q f t (k + 1) else run (l.drop (k + 1)) 1 q f (t ++ [c]) (k + 1)) := by
          show _ = _; rw [← HE.out, HD.out, run_1]
        by_cases h1 : c = q
        · subst h1
          have HR2 : Hid (R = if (l.drop (k + 1)).head?.any (fun d => !isSp d) = true then none else some (t, k + 1)) := by
            show _ = _; rw [HE1.out, if_pos rfl]
          by_cases hlt1 : k + 1 < l.length
          · have ed := HL.out (k + 1) hlt1
            obtain ⟨d, hd⟩ : ∃ d, l.getD (k + 1) 0 = d := ⟨_, rfl⟩
            rw [hd] at ed
            have HD1 : Hid (l.drop (k + 1) = d :: l.drop (k + 2)) := by show _ = _; rw [← hd]; exact drop_cons l (k + 1) hlt1
            clear hd
            cases hsp : isSp d with
            | false =>
              go_wp2_with (first | (go_at_call 29; refine (blank_any _ _).mono ?_; rintro e w' ⟨rfl, hw⟩; obtain rfl := hw.symm))
              go_ret3
              rw [HR2.out, HD1.out]
              simp [PostQ, hsp]
              exact ⟨_, hG⟩
            | true =>
              go_wp2_with (first | (go_at_call 29; refine (blank_any _ _).mono ?_; rintro e w' ⟨rfl, hw⟩; obtain rfl := hw.symm))
              go_ret3
              rw [HR2.out, HD1.out]
              simp only [List.head?_cons, Option.any_some, hsp, Bool.not_true, Bool.false_eq_true, if_false]
              exact ⟨_, rfl, hown1, hG⟩
          · go_wp2
            go_ret3
            rw [HR2.out, List.drop_eq_nil_of_le (by omega)]
            exact ⟨_, rfl, hown1, hG⟩
        · have b1 : (c == q) = false := by simpa using h1
          by_cases h2 : c = 92 ∧ (q = 34 ∨ q = 39)
          · have HE2 : Hid (run (l.drop (k + 1)) 2 q f t (k + 1) = R) := by show _ = _; rw [HE1.out, if_neg h1, if_pos h2]
            obtain ⟨rfl, rfl | rfl⟩ := h2
            all_goals
              clear h1
              go_wp2
              go_roundw
              case rel => exact ⟨k + 1, 2, _, f, t, by omega, by go_num, rfl, rfl, rfl, hown1, hG, by omega, by omega, HE2.out⟩
              case measure => simp [intOf] <;> omega
          · have HE2 : Hid (run (l.drop (k + 1)) 1 q f (t ++ [c]) (k + 1) = R) := by show _ = _; rw [HE1.out, if_neg h1, if_neg h2]
            by_cases hc92 : c = 92
            · subst hc92
              have b2 : (q == 34) = false := by simp; intro e; exact h2 ⟨rfl, .inl e⟩
              have b3 : (q == 39) = false := by simp; intro e; exact h2 ⟨rfl, .inr e⟩
              clear h1 h2
              go_wp2_with (first | (at_builtin; refine wpList_app Try.underlying22 info5 rfl _ _ rfl w.heap.size _ t rfl (Own.alloc hown1 _) ⟨wr.heap.size, 0, none⟩ 1 1 [92] rfl rfl (one_new _ _) (by simp; omega) (by simp; omega) ?_; intro v' w1 hown2 hG2))
              go_roundw
              case rel => exact ⟨k + 1, 1, q, f, t ++ [92], by omega, by go_num, rfl, rfl, rfl, hown2, hG.trans ((Grew.alloc _ _ _).trans hG2), by simp; omega, by omega, HE2.out⟩
              case measure => simp [intOf] <;> omega
            · have b2 : (c == 92) = false := by simpa using hc92
              clear h1 h2 hc92
              go_wp2_with (first | (at_builtin; refine wpList_app Try.underlying22 info5 rfl _ _ rfl w.heap.size _ t rfl (Own.alloc hown1 _) ⟨wr.heap.size, 0, none⟩ 1 1 [c] rfl rfl (one_new _ _) (by simp; omega) (by simp; omega) ?_; intro v' w1 hown2 hG2))
              go_roundw
              case rel => exact ⟨k + 1, 1, q, f, t ++ [c], by omega, by go_num, rfl, rfl, rfl, hown2, hG.trans ((Grew.alloc _ _ _).trans hG2), by simp; omega, by omega, HE2.out⟩
              case measure => simp [intOf] <;> omega
      | 2, hst, htl, hf, HE =>
        clear hst hf
        by_cases hq : q = 39
        · subst hq
          by_cases hc : c = 39
          · subst hc
            have HE2 : Hid (run (l.drop (k + 1)) 1 39 f (t ++ [39]) (k + 1) = R) := by show _ = _; rw [← HE.out, HD.out, run_2sq]
            go_wp2_with (first | (at_builtin; refine wpList_app Try.underlying22 info5 rfl _ _ rfl w.heap.size _ t rfl (Own.alloc hown1 _) ⟨wr.heap.size, 0, none⟩ 1 1 [39] rfl rfl (one_new _ _) (by simp; omega) (by simp; omega) ?_; intro v' w1 hown2 hG2))
            go_roundw
            case rel => exact ⟨k + 1, 1, 39, f, t ++ [39], by omega, by go_num, rfl, rfl, rfl, hown2, hG.trans ((Grew.alloc _ _ _).trans hG2), by simp; omega, by omega, HE2.out⟩
            case measure => simp [intOf] <;> omega
          · have b1 : (c == 39) = false := by simpa using hc
            have HE2 : Hid (run (l.drop k) 1 39 f (t ++ [92]) k = R) := by show _ = _; rw [← HE.out, HD.out, run_2sqno _ _ _ _ _ hc]
            clear hc
            go_wp2_with (first | (at_builtin; refine wpList_app Try.underlying22 info5 rfl _ _ rfl w.heap.size _ t rfl (Own.alloc hown1 _) ⟨wr.heap.size, 0, none⟩ 1 1 [92] rfl rfl (one_new _ _) (by simp; omega) (by simp; omega) ?_; intro v' w1 hown2 hG2))
            go_roundw
            case rel => exact ⟨k, 1, 39, f, t ++ [92], by omega, by go_num, rfl, rfl, rfl, hown2, hG.trans ((Grew.alloc _ _ _).trans hG2), by simp; omega, by omega, HE2.out⟩
            case measure => simp [intOf] <;> omega
        · have b1 : (q == 39) = false := by simpa using hq
          by_cases hc : c = 120
          · subst hc
            have HE2 : Hid (run (l.drop (k + 1)) 3 q f t (k + 1) = R) := by show _ = _; rw [← HE.out, HD.out, run_2x _ _ _ _ _ hq]
            clear hq
            go_wp2
            go_roundw
            case rel => exact ⟨k + 1, 3, q, f, t, by omega, by go_num, rfl, rfl, rfl, hown1, hG, by omega, by omega, HE2.out⟩
            case measure => simp [intOf] <;> omega
          · have b2 : (c == 120) = false := by simpa using hc
            have HE2 : Hid (run (l.drop (k + 1)) 1 q f (t ++ [unesc c]) (k + 1) = R) := by show _ = _; rw [← HE.out, HD.out, run_2 _ _ _ _ _ _ hq hc]
            clear hc hq
            go_wp2_with (first | (go_at_call 33; refine (zzUnescape_any _ _).mono ?_; rintro e w' ⟨rfl, hw⟩; obtain rfl := hw.symm) | (at_builtin; refine wpList_app Try.underlying22 info5 rfl _ _ rfl w.heap.size _ t rfl (Own.alloc hown1 _) ⟨wr.heap.size, 0, none⟩ 1 1 [unesc c] rfl rfl (one_new _ _) (by simp; omega) (by simp; omega) ?_; intro v' w1 hown2 hG2))
            go_roundw
            case rel => exact ⟨k + 1, 1, q, f, t ++ [unesc c], by omega, by go_num, rfl, rfl, rfl, hown2, hG.trans ((Grew.alloc _ _ _).trans hG2), by simp; omega, by omega, HE2.out⟩
            case measure => simp [intOf] <;> omega
      | 3, hst, htl, hf, HE =>
        clear hst hf
        cases hx : isHx c with
        | false =>
          have HE2 : Hid (run (l.drop k) 1 q f (t ++ [120]) k = R) := by show _ = _; rw [← HE.out, HD.out, run_3no _ _ _ _ _ _ hx]
          have hv : hexS c = -1 := by simp [hexS, hx]
          go_wp2_with (first | (go_at_call 34; refine (hexVal_any _ _).mono ?_; rintro e w' ⟨rfl, hw⟩; obtain rfl := hw.symm) | (at_builtin; refine wpList_app Try.underlying22 info5 rfl _ _ rfl w.heap.size _ t rfl (Own.alloc hown1 _) ⟨wr.heap.size, 0, none⟩ 1 1 [120] rfl rfl (one_new _ _) (by simp; omega) (by simp; omega) ?_; intro v' w1 hown2 hG2))
          go_roundw
          case rel => exact ⟨k, 1, q, f, t ++ [120], by omega, by go_num, rfl, rfl, rfl, hown2, hG.trans ((Grew.alloc _ _ _).trans hG2), by simp; omega, by omega, HE2.out⟩
          case measure => simp [intOf] <;> omega
        | true =>
          have HE2 : Hid (run (l.drop (k + 1)) 4 q c t (k + 1) = R) := by show _ = _; rw [← HE.out, HD.out, run_3 _ _ _ _ _ _ hx]
          have hv : hexS c = hexV c := by simp [hexS, hx]
          have bd := hexV_bd c hx
          have HX : Hid (isHx c = true) := hx
          clear hx
          go_wp2_with (first | (go_at_call 34; refine (hexVal_any _ _).mono ?_; rintro e w' ⟨rfl, hw⟩; obtain rfl := hw.symm))
          go_roundw
          case rel => exact ⟨k + 1, 4, q, c, t, by omega, by go_num, rfl, rfl, rfl, hown1, hG, by omega, fun _ => HX.out, HE2.out⟩
          case measure => simp [intOf] <;> omega
      | 4, hst, htl, hf, HE =>
        clear hst
        have hxf := hf rfl
        clear hf
        have hvf : hexS f = hexV f := by simp [hexS, hxf]
        have bdf := hexV_bd f hxf
        cases hx : isHx c with
        | false =>
          have HE2 : Hid (run (l.drop k) 1 q f (t ++ [120, f]) k = R) := by show _ = _; rw [← HE.out, HD.out, run_4no c _ 4 q f t k (by omega) hx]
          have hv : hexS c = -1 := by simp [hexS, hx]
          go_wp2_with (first | (go_at_call 34; refine (hexVal_any _ _).mono ?_; rintro e w' ⟨rfl, hw⟩; obtain rfl := hw.symm) | (at_builtin; refine wpList_app Try.underlying22 info5 rfl _ _ rfl w.heap.size _ t rfl (Own.alloc hown1 _) ⟨wr.heap.size, 0, none⟩ 2 2 [120, f] rfl rfl (two_new _ _ _) (by simp; omega) (by simp; omega) ?_; intro v' w1 hown2 hG2))
          go_roundw
          case rel => exact ⟨k, 1, q, f, t ++ [120, f], by omega, by go_num, rfl, rfl, rfl, hown2, hG.trans ((Grew.alloc _ _ _).trans hG2), by simp; omega, by omega, HE2.out⟩
          case measure => simp [intOf] <;> omega
        | true =>
          have HE2 : Hid (run (l.drop (k + 1)) 1 q f (t ++ [hexV f * 16 + hexV c]) (k + 1) = R) := by show _ = _; rw [← HE.out, HD.out, run_4 _ _ _ _ _ _ _ (by omega) hx]
          have hv : hexS c = hexV c := by simp [hexS, hx]
          have bd := hexV_bd c hx
          go_wp2_with (first | (go_at_call 34; refine (hexVal_any _ _).mono ?_; rintro e w' ⟨rfl, hw⟩; obtain rfl := hw.symm) | (at_builtin; refine wpList_app Try.underlying22 info5 rfl _ _ rfl w.heap.size _ t rfl (Own.alloc hown1 _) ⟨wr.heap.size, 0, none⟩ 1 1 [hexV f * 16 + hexV c] rfl rfl (one_new _ _) (by simp; omega) (by simp; omega) ?_; intro v' w1 hown2 hG2))
          go_roundw
          case rel => exact ⟨k + 1, 1, q, f, t ++ [hexV f * 16 + hexV c], by omega, by go_num, rfl, rfl, rfl, hown2, hG.trans ((Grew.alloc _ _ _).trans hG2), by simp; omega, by omega, HE2.out⟩
          case measure => simp [intOf] <;> omega
      | st + 5, hst, _, _, _ => omega
    · have HE1 : Hid (R = if st = 0 then some (t, k) else none) := by show _ = _; rw [← HE.out, List.drop_eq_nil_of_le (by omega), run]
      match st, HE1 with
      | 0, HE1 =>
        go_wp2
        go_ret3
        rw [HE1.out, if_pos (by simp)]
        exact ⟨_, rfl, hown1, hG⟩
      | st + 1, HE1 =>
        have b1 : (((st + 1 : Nat) : Int) == 0) = false := by simp; omega
        go_wp2
        go_ret3
        rw [HE1.out, if_neg (by first | omega | simp)]
        exact ⟨rfl, _, hG⟩
end Go.Proofs.Qxb6600352a.Run
