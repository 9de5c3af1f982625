import Derived.Test.Qxb6600352aBase
namespace Go.Proofs.Qxb6600352a.Base
open Go.RowKit
open Go.Proofs.Qxb6600352a.Plain Go.Proofs.Qxb6600352a.Mem
set_option linter.unusedVariables false
set_option linter.unusedSimpArgs false

theorem roomThen_short (a1 a2 a3 : Option Addr) (n1 c1 n2 c2 n3 c3 : Nat) (w : World) (hb : n1 + n2 + n3 ≤ 1099511627776) (h : ¬ n1 = n2 + n3) :
    Calls Try.prog 23 #[.slice a1 n1 c1, .slice a2 n2 c2, .slice a3 n3 c3] w fun e w' => e = .returned (.bool false) ∧ w' = w := by
  have hb : (((n1 : Nat) : Int) == (n2 : Int) + (n3 : Int)) = false := by simp; omega
  go_enter Try.func23, Try.ntmps23
  go_wp2
  go_ret
  exact ⟨rfl, rfl⟩

theorem roomThen_nil (a2 a3 : Option Addr) (c2 c3 : Nat) (w : World)  :
    Calls Try.prog 23 #[.slice none 0 0, .slice a2 0 c2, .slice a3 0 c3] w fun e w' => e = .returned (.bool true) ∧ ∃ n, w' = w.drewN n := by
  go_enter Try.func23, Try.ntmps23
  go_wp2_with fail
  refine (same_any none a2 0 c2 [] [] _ (by simp) (fun j hj => by simp at hj) (fun j hj => by simp at hj)).mono ?_
  rintro e w' ⟨rfl, nn, rfl⟩
  go_wp2_with fail
  refine (same_any none a3 0 c3 [] [] _ (by simp) (fun j hj => by simp at hj) (fun j hj => by simp at hj)).mono ?_
  rintro e w' ⟨rfl, nn2, rfl⟩
  go_wp2
  go_ret
  exact ⟨rfl, _, by first | rfl | rw [World.drewN_drewN]⟩

theorem Rd.drewN {w : World} {ao : Option Addr} {l : List Int} (h : Rd w ao l) (n : Nat) : Rd (w.drewN n) ao l := h

theorem same_at (a1 a2 : Option Addr) (c1 c2 : Nat) (l1 l2 : List Int) (n1 n2 : Nat) (w : World) (hb : l1.length ≤ 1099511627776) (hn1 : l1.length = n1) (hn2 : l2.length = n2) (h1 : Rd w a1 l1) (h2 : Rd w a2 l2) :
    Calls Try.prog 14 #[.slice a1 n1 c1, .slice a2 n2 c2] w fun e w' => e = .returned (.bool (l1 == l2)) ∧ ∃ n, w' = w.drewN n := by
  subst hn1; subst hn2; exact same_any a1 a2 c1 c2 l1 l2 w hb h1 h2

set_option maxHeartbeats 400000 in
theorem roomThen_some (g cap n1 n2 n3 : Nat) (a2 a3 : Option Addr) (c2 c3 : Nat) (lg lr lw : List Int) (w : World) (hb : lg.length ≤ 1099511627776) (hn1 : lg.length = n1) (hn2 : lr.length = n2) (hn3 : lw.length = n3)
    (hc : ∀ j, j < lg.length → w.cell? ⟨g, j, none⟩ = some (.int .u8 (lg.getD j 0))) (hcap : n1 ≤ cap) (h1 : Rd w a2 lr) (h2 : Rd w a3 lw) (h : n1 = n2 + n3) :
    Calls Try.prog 23 #[.slice (some ⟨g, 0, none⟩) n1 cap, .slice a2 n2 c2, .slice a3 n3 c3] w fun e w' => e = .returned (.bool (lg == lr ++ lw)) ∧ ∃ n, w' = w.drewN n := by
  have hbq : (((n1 : Nat) : Int) == (n2 : Int) + (n3 : Int)) = true := by simp; omega
  have hsum : n2 + n3 ≤ 1099511627776 := by omega
  have hle : (n2 : Int) ≤ (cap : Int) := by omega
  have hle2 : (n2 : Int) ≤ (n1 : Int) := by omega
  have H : Hid (n1 = n2 + n3) := h
  have H1 : Hid (lg.length = n1) := hn1
  have H2 : Hid (lr.length = n2) := hn2
  have H3 : Hid (lw.length = n3) := hn3
  have HC : Hid (∀ j, j < lg.length → w.cell? ⟨g, j, none⟩ = some (.int .u8 (lg.getD j 0))) := hc
  have HB : Hid (lg.length ≤ 1099511627776) := hb
  clear h hn1 hn2 hn3 hc hb
  have hlt1 : (lg.take n2).length = n2 := by have := H.out; have := H1.out; simp; omega
  have hld1 : (lg.drop n2).length = n3 := by have := H.out; have := H1.out; simp; omega
  have r1 : Rd w (some ⟨g, 0, none⟩) (lg.take n2) := by
    intro j hj
    refine ⟨g, 0, rfl, ?_⟩
    rw [hlt1] at hj
    have := HC.out j (by have := H.out; have := H1.out; omega)
    rw [Nat.zero_add, this]
    simp [List.getD, List.getElem?_take, hj]
  have r2 : ∀ ao : Option Addr, (n2 < cap → ao = some ⟨g, n2, none⟩) → Rd w ao (lg.drop n2) := by
    intro ao hao j hj
    rw [hld1] at hj
    have hlt : n2 < cap := by have := H.out; omega
    refine ⟨g, n2, hao hlt, ?_⟩
    have := HC.out (n2 + j) (by have := H.out; have := H1.out; omega)
    rw [this]
    simp [List.getD]
  have HE : Hid ((lg == lr ++ lw) = ((lg.take n2 == lr) && (lg.drop n2 == lw))) := by
    show _ = _
    rw [Bool.eq_iff_iff]
    simp only [beq_iff_eq, Bool.and_eq_true]
    constructor
    · rintro rfl
      have := H2.out
      subst this
      simp
    · rintro ⟨e1, e2⟩
      rw [← e1, ← e2]
      simp
  have hB1 : (lg.take n2).length ≤ 1099511627776 := by omega
  have hB2 : (lg.drop n2).length ≤ 1099511627776 := by omega
  generalize lg.take n2 = t1 at *
  generalize lg.drop n2 = t2 at *
  have K1 := H2.out
  have HL1 : Hid (t1.length = n2) := hlt1
  have HL2 : Hid (t2.length = n3) := hld1
  have HB1 : Hid (t1.length ≤ 1099511627776) := hB1
  have HB2 : Hid (t2.length ≤ 1099511627776) := hB2
  clear hlt1 hld1 hB1 hB2 K1
  go_enter Try.func23, Try.ntmps23
  go_wp2_with fail
  refine (same_at _ a2 cap c2 t1 lr n2 n2 _ HB1.out HL1.out H2.out r1 h1).mono ?_
  rintro e w' ⟨rfl, nn, rfl⟩
  cases hb1 : (t1 == lr) with
  | false =>
    go_wp2
    go_ret
    exact ⟨Leaf.ret_bool (by rw [HE.out, hb1]; rfl), nn, rfl⟩
  | true =>
    go_wp2_with fail
    · have HL3 : t2.length = n1 - n2 := by have := HL2.out; have := H.out; omega
      refine (same_at _ a3 _ c3 t2 lw (n1 - n2) n3 (w.drewN nn) HB2.out HL3 H3.out (Rd.drewN (r2 _ (fun hlt => absurd hlt (by omega))) nn) (Rd.drewN h2 nn)).mono ?_
      rintro e w' ⟨rfl, nn2, rfl⟩
      clear HL3
      go_wp2
      go_ret
      exact ⟨Leaf.ret_bool (by rw [HE.out, hb1]; simp), _, by first | rfl | rw [World.drewN_drewN]⟩
    · have HL3 : t2.length = n1 - n2 := by have := HL2.out; have := H.out; omega
      refine (same_at _ a3 _ c3 t2 lw (n1 - n2) n3 (w.drewN nn) HB2.out HL3 H3.out (Rd.drewN (r2 _ (fun hlt => rfl)) nn) (Rd.drewN h2 nn)).mono ?_
      rintro e w' ⟨rfl, nn2, rfl⟩
      clear HL3
      go_wp2
      go_ret
      exact ⟨Leaf.ret_bool (by rw [HE.out, hb1]; simp), _, by first | rfl | rw [World.drewN_drewN]⟩

theorem Own.rd {w : World} {base n cap : Nat} {ao : Option Addr} {l : List Int} (h : Own w base (.slice ao n cap) l) : Rd w ao l := by
  intro j hj
  rcases h.form with ⟨e, rfl⟩ | ⟨g, cap', e, _⟩
  · simp at hj
  · cases e
    exact ⟨g, 0, rfl, by rw [Nat.zero_add]; exact h.cell j hj⟩

/-- zzIsRoomThen: got is room followed by w. -/
theorem roomThen_any (b1 b2 b3 : Nat) (gv rv wv : Value) (lg lr lw : List Int) (w : World) (hb : lg.length + lr.length + lw.length ≤ 1099511627776) (hg : Own w b1 gv lg) (hr : Own w b2 rv lr) (hw : Own w b3 wv lw) :
    Calls Try.prog 23 #[gv, rv, wv] w fun e w' => e = .returned (.bool (lg == lr ++ lw)) ∧ ∃ n, w' = w.drewN n := by
  obtain ⟨a2, c2, rfl⟩ : ∃ a2 c2, rv = .slice a2 lr.length c2 := by
    rcases hr.form with ⟨rfl, rfl⟩ | ⟨g, cap, rfl, _⟩
    · exact ⟨_, _, rfl⟩
    · exact ⟨_, _, rfl⟩
  obtain ⟨a3, c3, rfl⟩ : ∃ a3 c3, wv = .slice a3 lw.length c3 := by
    rcases hw.form with ⟨rfl, rfl⟩ | ⟨g, cap, rfl, _⟩
    · exact ⟨_, _, rfl⟩
    · exact ⟨_, _, rfl⟩
  have r1 := Own.rd hr
  have r2 := Own.rd hw
  by_cases hlen : lg.length = lr.length + lw.length
  · rcases hg.form with ⟨rfl, rfl⟩ | ⟨g, cap, rfl, _, _, hcap, _⟩
    · have e1 : lr = [] := List.eq_nil_of_length_eq_zero (by simp at hlen; omega)
      have e2 : lw = [] := List.eq_nil_of_length_eq_zero (by simp at hlen; omega)
      subst e1; subst e2
      exact roomThen_nil a2 a3 c2 c3 w
    · exact roomThen_some g cap _ _ _ a2 a3 c2 c3 lg lr lw w (by omega) rfl rfl rfl (fun j hj => hg.cell j hj) hcap r1 r2 hlen
  · obtain ⟨a1, c1, rfl⟩ : ∃ a1 c1, gv = .slice a1 lg.length c1 := by
      rcases hg.form with ⟨rfl, rfl⟩ | ⟨g, cap, rfl, _⟩
      · exact ⟨_, _, rfl⟩
      · exact ⟨_, _, rfl⟩
    refine (roomThen_short a1 a2 a3 _ c1 _ c2 _ c3 w hb hlen).mono ?_
    rintro e w' ⟨rfl, rfl⟩
    refine ⟨Leaf.ret_bool ?_, 0, rfl⟩
    symm
    rw [beq_eq_false_iff_ne]
    rintro rfl
    exact hlen (by simp)
end Go.Proofs.Qxb6600352a.Base
