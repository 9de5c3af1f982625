/-
  appendQuoted's and appendWord's contracts at every line and index; the exported doors.
-/
import Derived.Test.Qxb6600352aQuoted
namespace Go.Proofs.Qxb6600352a.Word
open Go.RowKit
open Go.Proofs.Qxb6600352a.Plain Go.Proofs.Qxb6600352a.Mem Go.Proofs.Qxb6600352a.Base Go.Proofs.Qxb6600352a.Leaf Go.Proofs.Qxb6600352a.Quoted
set_option linter.unusedVariables false
set_option linter.unusedSimpArgs false

theorem postQ_form {w : World} {base : Nat} {v : Value} {R : Option (List Int × Nat)} {e : Ending} {w' : World} (h : PostQ w base v R e w') :
    ∃ (v' : Value) (j : Nat) (ok : Bool), e = .returned (.tuple #[v', .int .i64 j, .bool ok]) ∧ PostQ w base v R (.returned (.tuple #[v', .int .i64 j, .bool ok])) w' := by
  cases R with
  | none =>
    obtain ⟨rfl, v', hg⟩ := h
    exact ⟨_, 0, _, rfl, rfl, v', hg⟩
  | some p =>
    obtain ⟨v', rfl, ho, hg⟩ := h
    exact ⟨_, _, _, rfl, v', rfl, ho, hg⟩

theorem quoted_all (base : Nat) (v : Value) (r0 : List Int) (la : Option Addr) (lb n cap : Nat) (l : List Int) (ii : Int) (i : Nat) (q : Int) (w : World) (hii : ii = i) (hn : n = l.length) (hown : Own w base v r0) (hbase : base ≤ w.heap.size) (hlb : l ≠ [] → lb < w.heap.size) (hne : l ≠ [] → v.ownBlock ≠ some lb)
    (hla : l ≠ [] → la = some ⟨lb, 0, none⟩) (hl : ∀ j, j < l.length → w.cell? ⟨lb, j, none⟩ = some (.int .u8 (l.getD j 0))) (hlen : r0.length + l.length ≤ 1099511627) :
    Calls Try.prog 35 #[v, .slice la n cap, .int .i64 ii, .int .u8 q] w (PostQ w base v (aq q (l.drop i) r0 i)) := by
  subst hii; subst hn
  by_cases hi : i < l.length
  · have hnn : l ≠ [] := by rintro rfl; simp at hi
    obtain rfl := hla hnn
    exact quoted_any base v r0 lb cap l i q w hown hbase (hlb hnn) (hne hnn) hl hlen hi
  · refine (quoted_past v la l.length cap i q w (by omega) hi).mono ?_
    rintro e w' ⟨rfl, rfl⟩
    rw [List.drop_eq_nil_of_le (by omega), aq]
    exact ⟨rfl, v, Grew.refl _ _⟩

set_option maxHeartbeats 400000 in
theorem zzQuoted_any (base : Nat) (v : Value) (r0 : List Int) (la : Option Addr) (lb n cap : Nat) (l : List Int) (i : Nat) (q : Int) (w : World) (hn : n = l.length) (hown : Own w base v r0) (hbase : base ≤ w.heap.size) (hlb : l ≠ [] → lb < w.heap.size) (hne : l ≠ [] → v.ownBlock ≠ some lb)
    (hla : l ≠ [] → la = some ⟨lb, 0, none⟩) (hl : ∀ j, j < l.length → w.cell? ⟨lb, j, none⟩ = some (.int .u8 (l.getD j 0))) (hlen : r0.length + l.length ≤ 1099511627) :
    Calls Try.prog 26 #[v, .slice la n cap, .int .i64 i, .int .u8 q] w (PostQ w base v (aq q (l.drop i) r0 i)) := by
  have C := quoted_all base v r0 la lb n cap l i i q w rfl hn hown hbase hlb hne hla hl hlen
  have HC : Hid (Calls Try.prog 35 #[v, .slice la n cap, .int .i64 i, .int .u8 q] w (PostQ w base v (aq q (l.drop i) r0 i))) := C
  clear C hl hla hown hn hlb hne
  generalize aq q (l.drop i) r0 i = R at *
  go_enter Try.func26, Try.ntmps26
  go_wp2_with fail
  refine HC.out.mono ?_
  intro e w' hp
  obtain ⟨v', j, ok, rfl, hp⟩ := postQ_form hp
  have HP : Hid (PostQ w base v R (.returned (.tuple #[v', .int .i64 j, .bool ok])) w') := hp
  clear hp HC
  go_wp2
  go_ret3
  exact HP.out

set_option maxHeartbeats 1000000 in
set_option maxRecDepth 100000 in
theorem word_all (base : Nat) (v : Value) (r0 : List Int) (la : Option Addr) (lb n cap : Nat) (l : List Int) (i : Nat) (w : World) (hn : n = l.length) (hown : Own w base v r0) (hbase : base ≤ w.heap.size) (hlb : l ≠ [] → lb < w.heap.size) (hne : l ≠ [] → v.ownBlock ≠ some lb)
    (hla : l ≠ [] → la = some ⟨lb, 0, none⟩) (hl : ∀ j, j < l.length → w.cell? ⟨lb, j, none⟩ = some (.int .u8 (l.getD j 0))) (hlen : r0.length + l.length ≤ 549755813) :
    Calls Try.prog 31 #[v, .slice la n cap, .int .i64 i] w (PostQ w base v (aw (l.drop i) r0 i)) := by
  subst hn
  obtain ⟨R, hR⟩ : ∃ R, aw (l.drop i) r0 i = R := ⟨_, rfl⟩
  rw [hR]
  have HR : Hid (aw (l.drop i) r0 i = R) := hR
  clear hR
  have Hla : Hid (l ≠ [] → la = some ⟨lb, 0, none⟩) := hla
  have Hlb : Hid (l ≠ [] → lb < w.heap.size) := hlb
  have Hne : Hid (l ≠ [] → v.ownBlock ≠ some lb) := hne
  clear hla hlb hne
  go_enter Try.func31, Try.ntmps31
  go_wp2
  go_loopw [0, 2] (fun rv iv wr => ∃ (k : Nat) (r : List Int), iv = .int .i64 k ∧ Own wr base rv r ∧ Grew w v wr rv ∧ (k ≤ l.length → r.length ≤ r0.length + k) ∧ aw (l.drop k) r k = R) (fun _ iv _ => l.length - (intOf iv).toNat)
  case atStart => exact ⟨i, r0, rfl, hown, Grew.refl _ _, fun _ => by omega, HR.out⟩
  case round =>
    obtain ⟨k, r, rfl, hown1, hG, hrl, hE⟩ := hrel
    have HE : Hid (aw (l.drop k) r k = R) := hE
    clear hE HR hown
    by_cases hlt : k < l.length
    · have hnn : l ≠ [] := by rintro rfl; simp at hlt
      obtain rfl := Hla.out hnn
      have hlb := Hlb.out hnn
      have hne := Hne.out hnn
      clear hnn Hla Hlb Hne
      have hcl : ∀ j, j < l.length → wr.cell? ⟨lb, j, none⟩ = some (.int .u8 (l.getD j 0)) := fun j hj => (hG.cell (a := ⟨lb, j, none⟩) hlb hne).trans (hl j hj)
      have hsz : base ≤ wr.heap.size := by have := hG.size; omega
      have hlb1 : lb < wr.heap.size := by have := hG.size; omega
      have hrl1 := hrl (by omega)
      clear hrl
      have hne1 : u0.ownBlock ≠ some lb := by
        rcases hG.lies with e | e
        · rw [e]; exact hne
        · intro e3; have := e lb e3; omega
      have ec := hcl k hlt
      obtain ⟨c, hc⟩ : ∃ c, l.getD k 0 = c := ⟨_, rfl⟩
      rw [hc] at ec
      have HD : Hid (l.drop k = c :: l.drop (k + 1)) := by show _ = _; rw [← hc]; exact drop_cons l k hlt
      have HL : Hid (∀ j, j < l.length → wr.cell? ⟨lb, j, none⟩ = some (.int .u8 (l.getD j 0))) := hcl
      clear hcl hc hl
      have HE1 : Hid (R = if ends c = true then some (r, k) else if c = 34 ∨ c = 39 then aq c (l.drop (k + 1)) r (k + 1) else aw (l.drop (k + 1)) (r ++ [c]) (k + 1)) := by
        show _ = _; rw [← HE.out, HD.out, aw]
      by_cases he : ends c = true
      · have HE2 : Hid (R = some (r, k)) := by show _ = _; rw [HE1.out, if_pos he]
        rw [ends_iff] at he
        rcases he with rfl | rfl | rfl | rfl
        all_goals
          go_wp2
          go_ret3
          rw [HE2.out]
          exact ⟨_, rfl, hown1, hG⟩
      · by_cases hq : c = 34 ∨ c = 39
        · have HE2 : Hid (aq c (l.drop (k + 1)) r (k + 1) = R) := by show _ = _; rw [HE1.out, if_neg he, if_pos hq]
          clear HE1
          rcases hq with rfl | rfl
          · clear he
            go_wp2_with fail
            refine (quoted_all base u0 r _ lb l.length cap l _ (k + 1) 34 wr (by omega) rfl hown1 hsz (fun _ => hlb1) (fun _ => hne1) (fun _ => rfl) HL.out (by omega)).mono ?_
            intro e w' hp
            rw [HE2.out] at hp
            obtain ⟨v', j, ok, rfl, hp⟩ := postQ_form hp
            have HP : Hid (PostQ w base v R (.returned (.tuple #[v', .int .i64 j, .bool ok])) w') := by
              cases R with
              | none => obtain ⟨h1, v2, h2⟩ := hp; exact ⟨h1, v2, hG.trans h2⟩
              | some p => obtain ⟨v2, h1, h2, h3⟩ := hp; exact ⟨v2, h1, h2, hG.trans h3⟩
            clear hp
            go_wp2
            go_ret3
            exact HP.out
          · clear he
            go_wp2_with fail
            refine (quoted_all base u0 r _ lb l.length cap l _ (k + 1) 39 wr (by omega) rfl hown1 hsz (fun _ => hlb1) (fun _ => hne1) (fun _ => rfl) HL.out (by omega)).mono ?_
            intro e w' hp
            rw [HE2.out] at hp
            obtain ⟨v', j, ok, rfl, hp⟩ := postQ_form hp
            have HP : Hid (PostQ w base v R (.returned (.tuple #[v', .int .i64 j, .bool ok])) w') := by
              cases R with
              | none => obtain ⟨h1, v2, h2⟩ := hp; exact ⟨h1, v2, hG.trans h2⟩
              | some p => obtain ⟨v2, h1, h2, h3⟩ := hp; exact ⟨v2, h1, h2, hG.trans h3⟩
            clear hp
            go_wp2
            go_ret3
            exact HP.out
        · have HE2 : Hid (aw (l.drop (k + 1)) (r ++ [c]) (k + 1) = R) := by show _ = _; rw [HE1.out, if_neg he, if_neg hq]
          rw [ends_iff] at he
          have b1 : (c == 32) = false := by simp; omega
          have b2 : (c == 9) = false := by simp; omega
          have b3 : (c == 13) = false := by simp; omega
          have b4 : (c == 10) = false := by simp; omega
          have b5 : (c == 34) = false := by simp; omega
          have b6 : (c == 39) = false := by simp; omega
          clear he hq HE1
          go_wp2_with (first | (at_builtin; refine wpList_app Try.underlying22 info5 rfl _ _ rfl base _ r rfl (Own.alloc hown1 _) ⟨wr.heap.size, 0, none⟩ 1 1 [c] rfl rfl (one_new _ _) (by simp; omega) (by simp; omega) ?_; intro v' w1 hown2 hG2))
          go_roundw
          case rel => exact ⟨k + 1, r ++ [c], by go_num, hown2, hG.trans ((Grew.alloc _ _ _).trans hG2), fun _ => by simp; omega, HE2.out⟩
          case measure => simp [intOf]; omega
    · go_wp2
      go_ret3
      have e : R = some (r, k) := by rw [← HE.out, List.drop_eq_nil_of_le (by omega), aw]
      rw [e]
      exact ⟨_, rfl, hown1, hG⟩

set_option maxHeartbeats 400000 in
theorem zzWord_any (base : Nat) (v : Value) (r0 : List Int) (la : Option Addr) (lb n cap : Nat) (l : List Int) (i : Nat) (w : World) (hn : n = l.length) (hown : Own w base v r0) (hbase : base ≤ w.heap.size) (hlb : l ≠ [] → lb < w.heap.size) (hne : l ≠ [] → v.ownBlock ≠ some lb)
    (hla : l ≠ [] → la = some ⟨lb, 0, none⟩) (hl : ∀ j, j < l.length → w.cell? ⟨lb, j, none⟩ = some (.int .u8 (l.getD j 0))) (hlen : r0.length + l.length ≤ 549755813) :
    Calls Try.prog 21 #[v, .slice la n cap, .int .i64 i] w (PostQ w base v (aw (l.drop i) r0 i)) := by
  have C := word_all base v r0 la lb n cap l i w hn hown hbase hlb hne hla hl hlen
  have HC : Hid (Calls Try.prog 31 #[v, .slice la n cap, .int .i64 i] w (PostQ w base v (aw (l.drop i) r0 i))) := C
  clear C hl hla hown hn hlb hne
  generalize aw (l.drop i) r0 i = R at *
  go_enter Try.func21, Try.ntmps21
  go_wp2_with fail
  refine HC.out.mono ?_
  intro e w' hp
  obtain ⟨v', j, ok, rfl, hp⟩ := postQ_form hp
  have HP : Hid (PostQ w base v R (.returned (.tuple #[v', .int .i64 j, .bool ok])) w') := hp
  clear hp HC
  go_wp2
  go_ret3
  exact HP.out
end Go.Proofs.Qxb6600352a.Word
