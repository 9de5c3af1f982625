/-
  appendQuoted computes 'aq'.
-/
import Derived.Test.Qxb6600352aBase2
import Derived.Test.Qxb6600352aModel
import Derived.Deep.RegionHeld3
import Derived.Deep.DrawnRows
namespace Go.Proofs.Qxb6600352a.Quoted
open Go.RowKit
open Go.Proofs.Qxb6600352a.Plain Go.Proofs.Qxb6600352a.Mem Go.Proofs.Qxb6600352a.Base Go.Proofs.Qxb6600352a.Leaf
set_option linter.unusedVariables false
set_option linter.unusedSimpArgs false

/-- What the readers answer: the text with the room ahead of it and the index; or nil, 0, false. -/
def PostQ (w : World) (base : Nat) (v : Value) (R : Option (List Int × Nat)) (e : Ending) (w' : World) : Prop :=
  match R with
  | some (r, j) => ∃ v', e = .returned (.tuple #[v', .int .i64 j, .bool true]) ∧ Own w' base v' r ∧ Grew w v w' v'
  | none => e = .returned (.tuple #[.slice none 0 0, .int .i64 0, .bool false]) ∧ ∃ v', Grew w v w' v'

theorem wrap_in (x : Int) (h0 : 0 ≤ x) (h1 : x ≤ 9223372036854775807) : IntKind.i64.wrap x = x := by
  rw [IntKind.wrap_i64]; omega
theorem or_hex (a b : Int) (ha : 0 ≤ a ∧ a ≤ 15) (hb : 0 ≤ b ∧ b ≤ 15) : bits BinOp.or IntKind.u8 (IntKind.u8.wrap (a * 16)) b = a * 16 + b := by
  have H : ∀ x y : Fin 16, bits BinOp.or IntKind.u8 (IntKind.u8.wrap (((x.1 : Nat) : Int) * 16)) ((y.1 : Nat) : Int) = ((x.1 : Nat) : Int) * 16 + ((y.1 : Nat) : Int) := by decide +kernel
  have h := H ⟨a.toNat, by omega⟩ ⟨b.toNat, by omega⟩
  simp only [Int.toNat_of_nonneg ha.1, Int.toNat_of_nonneg hb.1] at h
  exact h
theorem drop_cons (l : List Int) (k : Nat) (h : k < l.length) : l.drop k = l.getD k 0 :: l.drop (k + 1) := by
  rw [List.drop_eq_getElem_cons h]; simp [h]

theorem quoted_past (v : Value) (la : Option Addr) (n cap : Nat) (i : Nat) (q : Int) (w : World) (hb : n ≤ 1099511627776) (h : ¬ i < n) :
    Calls Try.prog 35 #[v, .slice la n cap, .int .i64 i, .int .u8 q] w fun e w' => e = .returned (.tuple #[.slice none 0 0, .int .i64 0, .bool false]) ∧ w' = w := by
  go_enter Try.func35, Try.ntmps35
  go_wp2
  go_loop [0, 2] (fun rv iv => iv = .int .i64 i) (fun _ _ => 0)
  case atStart => rfl
  case round =>
    subst hrel
    go_wp2
    go_ret3
    exact ⟨rfl, rfl⟩

set_option maxHeartbeats 1000000 in
set_option maxRecDepth 100000 in
theorem quoted_any (base : Nat) (v : Value) (r0 : List Int) (lb cap : Nat) (l : List Int) (i : Nat) (q : Int) (w : World) (hown : Own w base v r0) (hbase : base ≤ w.heap.size) (hlb : lb < w.heap.size) (hne : v.ownBlock ≠ some lb)
    (hl : ∀ j, j < l.length → w.cell? ⟨lb, j, none⟩ = some (.int .u8 (l.getD j 0))) (hlen : r0.length + l.length ≤ 1099511627) (hi : i < l.length) :
    Calls Try.prog 35 #[v, .slice (some ⟨lb, 0, none⟩) l.length cap, .int .i64 i, .int .u8 q] w (PostQ w base v (aq q (l.drop i) r0 i)) := by
  obtain ⟨R, hR⟩ : ∃ R, aq q (l.drop i) r0 i = R := ⟨_, rfl⟩
  rw [hR]
  have HR : Hid (aq q (l.drop i) r0 i = R) := hR
  clear hR
  go_enter Try.func35, Try.ntmps35
  go_wp2
  go_loopw [0, 2] (fun rv iv wr => ∃ (k : Nat) (r : List Int), k ≤ l.length ∧ iv = .int .i64 k ∧ Own wr base rv r ∧ Grew w v wr rv ∧ r.length ≤ r0.length + k ∧ aq q (l.drop k) r k = R) (fun _ iv _ => l.length - (intOf iv).toNat)
  case atStart => exact ⟨i, r0, by omega, rfl, hown, Grew.refl _ _, by omega, HR.out⟩
  case round =>
    obtain ⟨k, r, hk, rfl, hown1, hG, hrl, hE⟩ := hrel
    have HE : Hid (aq q (l.drop k) r k = R) := hE
    clear hE HR hown
    by_cases hlt : k < l.length
    · have hcl : ∀ j, j < l.length → wr.cell? ⟨lb, j, none⟩ = some (.int .u8 (l.getD j 0)) := fun j hj => (hG.cell (a := ⟨lb, j, none⟩) hlb hne).trans (hl j hj)
      have hsz : base ≤ wr.heap.size := by have := hG.size; omega
      have ec := hcl k hlt
      obtain ⟨c, hc⟩ : ∃ c, l.getD k 0 = c := ⟨_, rfl⟩
      rw [hc] at ec
      have HD : Hid (l.drop k = c :: l.drop (k + 1)) := by show _ = _; rw [← hc]; exact drop_cons l k hlt
      have HL : Hid (∀ j, j < l.length → wr.cell? ⟨lb, j, none⟩ = some (.int .u8 (l.getD j 0))) := hcl
      clear hcl hc hl
      by_cases h1 : c = q
      · subst h1
        have HR2 : Hid (R = if (l.drop (k + 1)).head?.any (fun d => !isSp d) = true then none else some (r, k + 1)) := by
          show _ = _; rw [← HE.out, HD.out, aq_close]
        by_cases hlt1 : k + 1 < l.length
        · have ed := HL.out (k + 1) hlt1
          obtain ⟨d, hd⟩ : ∃ d, l.getD (k + 1) 0 = d := ⟨_, rfl⟩
          rw [hd] at ed
          have HD1 : Hid (l.drop (k + 1) = d :: l.drop (k + 2)) := by show _ = _; rw [← hd]; exact drop_cons l (k + 1) hlt1
          clear hd
          cases hsp : isSp d with
          | false =>
            go_wp2_with (first | (go_at_call 36; refine (isSpace_any _ _).mono ?_; rintro e w' ⟨rfl, rfl⟩))
            go_ret3
            rw [HR2.out, HD1.out]
            simp [PostQ, hsp]
            exact ⟨_, hG⟩
          | true =>
            go_wp2_with (first | (go_at_call 36; refine (isSpace_any _ _).mono ?_; rintro e w' ⟨rfl, rfl⟩))
            go_ret3
            rw [HR2.out, HD1.out]
            simp only [List.head?_cons, Option.any_some, hsp, Bool.not_true, Bool.false_eq_true, if_false]
            exact ⟨_, rfl, hown1, hG⟩
        · go_wp2
          go_ret3
          rw [HR2.out, List.drop_eq_nil_of_le (by omega)]
          exact ⟨_, rfl, hown1, hG⟩
      · have b1 : (c == q) = false := by simpa using h1
        by_cases h2 : c = 92 ∧ q = 39 ∧ (l.drop (k + 1)).head? = some 39
        · obtain ⟨rfl, rfl, h2c⟩ := h2
          have hlt1 : k + 1 < l.length := by
            rcases Nat.lt_or_ge (k + 1) l.length with h | h
            · exact h
            · rw [List.drop_eq_nil_of_le h] at h2c; cases h2c
          have ed := HL.out (k + 1) hlt1
          have hd : l.getD (k + 1) 0 = 39 := by
            rw [drop_cons l (k + 1) hlt1] at h2c
            simpa using h2c
          rw [hd] at ed
          have HE2 : Hid (aq 39 (l.drop (k + 2)) (r ++ [39]) (k + 2) = R) := by
            show _ = _
            rw [← HE.out, HD.out, drop_cons l (k + 1) hlt1, hd, aq_sq]
          clear h2c hd h1
          go_wp2_with (first | (at_builtin; refine wpList_app Try.underlying22 info5 rfl _ _ rfl base _ r rfl (Own.alloc hown1 _) ⟨wr.heap.size, 0, none⟩ 1 1 [39] rfl rfl (one_new _ _) (by simp; omega) (by simp; omega) ?_; intro v' w1 hown2 hG2))
          go_roundw
          case rel => exact ⟨k + 2, r ++ [39], by omega, by go_num, hown2, hG.trans ((Grew.alloc _ _ _).trans hG2), by simp; omega, HE2.out⟩
          case measure => simp [intOf]; omega
        · by_cases h3 : c = 92 ∧ q = 34 ∧ k + 1 < l.length
          · obtain ⟨rfl, rfl, hlt1⟩ := h3
            have ed := HL.out (k + 1) hlt1
            obtain ⟨d, hd⟩ : ∃ d, l.getD (k + 1) 0 = d := ⟨_, rfl⟩
            rw [hd] at ed
            have HD1 : Hid (l.drop (k + 1) = d :: l.drop (k + 2)) := by show _ = _; rw [← hd]; exact drop_cons l (k + 1) hlt1
            clear hd h2 h1
            cases hx : hexAhead (l.drop (k + 1)) with
            | true =>
              obtain ⟨h1, h2, s2, rfl, hx1, hx2, hs⟩ : ∃ h1 h2 s2, d = 120 ∧ isHx h1 = true ∧ isHx h2 = true ∧ l.drop (k + 2) = h1 :: h2 :: s2 := by
                rw [HD1.out] at hx
                match hm : l.drop (k + 2), hx with
                | h1 :: h2 :: s2, hx =>
                  simp [hexAhead] at hx
                  exact ⟨h1, h2, s2, hx.1.1, hx.1.2, hx.2, rfl⟩
                | [_], hx => simp [hexAhead] at hx
                | [], hx => simp [hexAhead] at hx
              have hlt3 : k + 3 < l.length := by
                have := congrArg List.length hs
                simp at this; omega
              have e1 := HL.out (k + 2) (by omega)
              have e2 := HL.out (k + 3) (by omega)
              rw [drop_cons l (k + 2) (by omega), drop_cons l (k + 3) (by omega)] at hs
              simp only [List.cons.injEq] at hs
              obtain ⟨hs1, hs2, hs3⟩ := hs
              rw [hs1] at e1
              rw [hs2] at e2
              have HE2 : Hid (aq 34 (l.drop (k + 4)) (r ++ [hexV h1 * 16 + hexV h2]) (k + 4) = R) := by
                show _ = _
                rw [← HE.out, HD.out, HD1.out, drop_cons l (k + 2) (by omega), drop_cons l (k + 3) (by omega), hs1, hs2, aq_hex _ _ _ _ _ hx1 hx2]
              clear hs1 hs2 hs3 hx
              have bd1 := hexV_bd h1 hx1
              have bd2 := hexV_bd h2 hx2
              have hne1 : u0.ownBlock ≠ some lb := by
                rcases hG.lies with e | e
                · rw [e]; exact hne
                · intro e3; have := e lb e3; omega
              have hlb1 : lb < wr.heap.size := by have := hG.size; omega
              have hk0 : (0 : Int) ≤ (k : Int) := Int.natCast_nonneg _
              have hk3 : (k : Int) + 3 < (l.length : Int) := by omega
              have hk2 : (k : Int) + 2 < (l.length : Int) := by omega
              go_wp2_with (first | (go_at_call 38; refine (isHex_any _ _).mono ?_; rintro e w' ⟨rfl, hw⟩; obtain rfl := hw.symm))
              have wk2 : IntKind.i64.wrap ((k : Int) + 2) = (k : Int) + 2 := wrap_in _ (by omega) (by omega)
              have wk3 : IntKind.i64.wrap ((k : Int) + 3) = (k : Int) + 3 := wrap_in _ (by omega) (by omega)
              have tk2 : ((k : Int) + 2).toNat = k + 2 := by omega
              have tk3 : ((k : Int) + 3).toNat = k + 3 := by omega
              have nk2 : (0 : Int) ≤ (k : Int) + 2 := by omega
              have nk3 : (0 : Int) ≤ (k : Int) + 3 := by omega
              go_region_held3 (fun w' => w'.cell? ⟨lb, k + 2, none⟩ = some (.int .u8 h1) ∧ w'.cell? ⟨lb, k + 3, none⟩ = some (.int .u8 h2))
                (first | go_keep | (go_split_ands; refine ⟨?_, ?_⟩ <;> (rw [hG2.cell (by simp; omega) hne1]; assumption)))
                ((first | (go_at_call 39; refine (hexValue_any _ _ ?_).mono ?_; (assumption); rintro e w' ⟨rfl, hw⟩; obtain rfl := hw.symm) | (refine step_app Try.underlying22 info5 (by rfl) _ _ (by rfl) base _ r (by rfl) ((Own.alloc hown1 _).drew) ⟨wr.heap.size, 0, none⟩ 1 1 [_] (by rfl) (by rfl) (one_new _ _) (by simp; omega) (by simp; omega) ?_; intro v' w1 hown2 hG2)))
              go_wp2
              go_roundw
              case rel =>
                refine ⟨k + 4, r ++ [hexV h1 * 16 + hexV h2], by omega, by go_num, ?_, hG.trans (((Grew.alloc _ _ _).trans (Grew.drew _ _)).trans hG2), by simp; omega, HE2.out⟩
                rw [or_hex _ _ bd1 bd2] at hown2
                exact hown2
              case measure => simp [intOf]; omega
            | false =>
              have HE2 : Hid (aq 34 (l.drop (k + 2)) (r ++ [unesc d]) (k + 2) = R) := by
                show _ = _
                rw [← HE.out, HD.out, HD1.out, aq_esc _ _ _ _ (by rw [← HD1.out]; exact hx)]
              by_cases hlt3 : k + 3 < l.length
              · have e1 := HL.out (k + 2) (by omega)
                have e2 := HL.out (k + 3) (by omega)
                rw [HD1.out, drop_cons l (k + 2) (by omega), drop_cons l (k + 3) (by omega)] at hx
                simp only [hexAhead] at hx
                generalize l.getD (k + 2) 0 = h1 at *
                generalize l.getD (k + 3) 0 = h2 at *
                by_cases hd : d = 120
                · subst hd
                  cases hx1 : isHx h1 with
                  | false =>
                    clear hx
                    go_wp2_with (first | (go_at_call 38; refine (isHex_any _ _).mono ?_; rintro e w' ⟨rfl, hw⟩; obtain rfl := hw.symm) | (go_at_call 40; refine (unescape_any _ _).mono ?_; rintro e w' ⟨rfl, hw⟩; obtain rfl := hw.symm) | (at_builtin; refine wpList_app Try.underlying22 info5 rfl _ _ rfl base _ r rfl (Own.alloc hown1 _) ⟨wr.heap.size, 0, none⟩ 1 1 [unesc 120] rfl rfl (one_new _ _) (by simp; omega) (by simp; omega) ?_; intro v' w1 hown2 hG2))
                    go_roundw
                    case rel => exact ⟨k + 2, r ++ [unesc 120], by omega, by go_num, hown2, hG.trans ((Grew.alloc _ _ _).trans hG2), by simp; omega, HE2.out⟩
                    case measure => simp [intOf]; omega
                  | true =>
                    have hx2 : isHx h2 = false := by simpa [hx1] using hx
                    clear hx
                    go_wp2_with (first | (go_at_call 38; refine (isHex_any _ _).mono ?_; rintro e w' ⟨rfl, hw⟩; obtain rfl := hw.symm) | (go_at_call 40; refine (unescape_any _ _).mono ?_; rintro e w' ⟨rfl, hw⟩; obtain rfl := hw.symm) | (at_builtin; refine wpList_app Try.underlying22 info5 rfl _ _ rfl base _ r rfl (Own.alloc hown1 _) ⟨wr.heap.size, 0, none⟩ 1 1 [unesc 120] rfl rfl (one_new _ _) (by simp; omega) (by simp; omega) ?_; intro v' w1 hown2 hG2))
                    go_roundw
                    case rel => exact ⟨k + 2, r ++ [unesc 120], by omega, by go_num, hown2, hG.trans ((Grew.alloc _ _ _).trans hG2), by simp; omega, HE2.out⟩
                    case measure => simp [intOf]; omega
                · have bd : (d == 120) = false := by simpa using hd
                  clear hx hd
                  go_wp2_with (first | (go_at_call 38; refine (isHex_any _ _).mono ?_; rintro e w' ⟨rfl, hw⟩; obtain rfl := hw.symm) | (go_at_call 40; refine (unescape_any _ _).mono ?_; rintro e w' ⟨rfl, hw⟩; obtain rfl := hw.symm) | (at_builtin; refine wpList_app Try.underlying22 info5 rfl _ _ rfl base _ r rfl (Own.alloc hown1 _) ⟨wr.heap.size, 0, none⟩ 1 1 [unesc d] rfl rfl (one_new _ _) (by simp; omega) (by simp; omega) ?_; intro v' w1 hown2 hG2))
                  go_roundw
                  case rel => exact ⟨k + 2, r ++ [unesc d], by omega, by go_num, hown2, hG.trans ((Grew.alloc _ _ _).trans hG2), by simp; omega, HE2.out⟩
                  case measure => simp [intOf]; omega
              · clear hx
                go_wp2_with (first | (go_at_call 38; refine (isHex_any _ _).mono ?_; rintro e w' ⟨rfl, hw⟩; obtain rfl := hw.symm) | (go_at_call 40; refine (unescape_any _ _).mono ?_; rintro e w' ⟨rfl, hw⟩; obtain rfl := hw.symm) | (at_builtin; refine wpList_app Try.underlying22 info5 rfl _ _ rfl base _ r rfl (Own.alloc hown1 _) ⟨wr.heap.size, 0, none⟩ 1 1 [unesc d] rfl rfl (one_new _ _) (by simp; omega) (by simp; omega) ?_; intro v' w1 hown2 hG2))
                go_roundw
                case rel => exact ⟨k + 2, r ++ [unesc d], by omega, by go_num, hown2, hG.trans ((Grew.alloc _ _ _).trans hG2), by simp; omega, HE2.out⟩
                case measure => simp [intOf]; omega
          · have HE2 : Hid (aq q (l.drop (k + 1)) (r ++ [c]) (k + 1) = R) := by
              show _ = _
              rw [← HE.out, HD.out, aq_plain _ _ _ _ _ h1 h2 (by
                rintro ⟨a, b, e⟩
                apply h3
                refine ⟨a, b, ?_⟩
                rcases Nat.lt_or_ge (k + 1) l.length with h | h
                · exact h
                · exact absurd (List.drop_eq_nil_of_le h) e)]
            have hv : c = 92 → q = 39 → k + 1 < l.length → ∃ d, ¬ d = 39 ∧ wr.cell? ⟨lb, k + 1, none⟩ = some (.int .u8 d) := by
              intro a b e
              refine ⟨l.getD (k + 1) 0, ?_, HL.out (k + 1) e⟩
              intro hd
              apply h2
              refine ⟨a, b, ?_⟩
              rw [drop_cons l (k + 1) e, hd]; rfl
            by_cases hc92 : c = 92
            · subst hc92
              by_cases hq39 : q = 39
              · subst hq39
                by_cases hlt1 : k + 1 < l.length
                · obtain ⟨d, hd, ed⟩ := hv rfl rfl hlt1
                  have b2 : (d == 39) = false := by simpa using hd
                  clear hv h3 h2 h1
                  go_wp2_with (first | (at_builtin; refine wpList_app Try.underlying22 info5 rfl _ _ rfl base _ r rfl (Own.alloc hown1 _) ⟨wr.heap.size, 0, none⟩ 1 1 [92] rfl rfl (one_new _ _) (by simp; omega) (by simp; omega) ?_; intro v' w1 hown2 hG2))
                  go_roundw
                  case rel => exact ⟨k + 1, r ++ [92], by omega, by go_num, hown2, hG.trans ((Grew.alloc _ _ _).trans hG2), by simp; omega, HE2.out⟩
                  case measure => simp [intOf]; omega
                · clear hv h3 h2 h1
                  go_wp2_with (first | (at_builtin; refine wpList_app Try.underlying22 info5 rfl _ _ rfl base _ r rfl (Own.alloc hown1 _) ⟨wr.heap.size, 0, none⟩ 1 1 [92] rfl rfl (one_new _ _) (by simp; omega) (by simp; omega) ?_; intro v' w1 hown2 hG2))
                  go_roundw
                  case rel => exact ⟨k + 1, r ++ [92], by omega, by go_num, hown2, hG.trans ((Grew.alloc _ _ _).trans hG2), by simp; omega, HE2.out⟩
                  case measure => simp [intOf]; omega
              · have b3 : (q == 39) = false := by simpa using hq39
                by_cases hq34 : q = 34
                · subst hq34
                  have hlt1 : ¬ k + 1 < l.length := fun h => h3 ⟨rfl, rfl, h⟩
                  clear hv h3 h2 h1
                  go_wp2_with (first | (at_builtin; refine wpList_app Try.underlying22 info5 rfl _ _ rfl base _ r rfl (Own.alloc hown1 _) ⟨wr.heap.size, 0, none⟩ 1 1 [92] rfl rfl (one_new _ _) (by simp; omega) (by simp; omega) ?_; intro v' w1 hown2 hG2))
                  go_roundw
                  case rel => exact ⟨k + 1, r ++ [92], by omega, by go_num, hown2, hG.trans ((Grew.alloc _ _ _).trans hG2), by simp; omega, HE2.out⟩
                  case measure => simp [intOf]; omega
                · have b4 : (q == 34) = false := by simpa using hq34
                  clear hv h3 h2 h1
                  go_wp2_with (first | (at_builtin; refine wpList_app Try.underlying22 info5 rfl _ _ rfl base _ r rfl (Own.alloc hown1 _) ⟨wr.heap.size, 0, none⟩ 1 1 [92] rfl rfl (one_new _ _) (by simp; omega) (by simp; omega) ?_; intro v' w1 hown2 hG2))
                  go_roundw
                  case rel => exact ⟨k + 1, r ++ [92], by omega, by go_num, hown2, hG.trans ((Grew.alloc _ _ _).trans hG2), by simp; omega, HE2.out⟩
                  case measure => simp [intOf]; omega
            · have b2 : (c == 92) = false := by simpa using hc92
              clear hv h3 h2 h1
              go_wp2_with (first | (at_builtin; refine wpList_app Try.underlying22 info5 rfl _ _ rfl base _ r rfl (Own.alloc hown1 _) ⟨wr.heap.size, 0, none⟩ 1 1 [c] rfl rfl (one_new _ _) (by simp; omega) (by simp; omega) ?_; intro v' w1 hown2 hG2))
              go_roundw
              case rel => exact ⟨k + 1, r ++ [c], by omega, by go_num, hown2, hG.trans ((Grew.alloc _ _ _).trans hG2), by simp; omega, HE2.out⟩
              case measure => simp [intOf]; omega
    · go_wp2
      go_ret3
      have e : R = none := by rw [← HE.out, List.drop_eq_nil_of_le (by omega), aq]
      rw [e]
      exact ⟨rfl, _, hG⟩
end Go.Proofs.Qxb6600352a.Quoted
