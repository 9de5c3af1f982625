/-
  Clones and comparison of byte slices.
-/
import Derived.Test.Qxb6600432aRows
import Derived.WalkKit
import Derived.ProofKit
import Derived.WalkLawsBesides
import Derived.WalkSpells
import Derived.Deep.QuietTactic
import Derived.BigQuiet
import Derived.Test.Qxb6600432aMem
namespace Go.Proofs.Qxb6600432a.Base
open Go.RowKit
open Go.Proofs.Qxb6600432a.Mem
set_option linter.unusedVariables false
set_option linter.unusedSimpArgs false

theorem ret_bool {a b : Bool} (h : a = b) : Ending.returned (.bool a) = .returned (.bool b) := by rw [h]
theorem info5 : (Try.prog.info? 5).map (fun i => (i.zero, i.size, i.bytes)) = some (some (.int .u8 0), 1, 1) := by kernel_rfl

def Rd (w : World) (ao : Option Addr) (l : List Int) : Prop := ∀ j, j < l.length → ∃ b off, ao = some ⟨b, off, none⟩ ∧ w.cell? ⟨b, off + j, none⟩ = some (.int .u8 (l.getD j 0))

theorem clone_nil (w : World) :
    Calls Try.prog 10 #[.slice none 0 0] w fun e w' => e = .returned (.slice none 0 0) ∧ w' = w := by
  have hn := fun (w : World) (a : Option Addr) (n c n2 c2 : Nat) => Lib.run_eql_slice_nil (P := Try.prog) w _ _ a n c n2 c2 Try.underlying22
  go_enter Try.func10, Try.ntmps10
  go_wp2
  go_ret
  exact ⟨rfl, rfl⟩

/-- One store of the clone's loop. -/
theorem own_store {w : World} {base g n cap : Nat} {l : List Int} (h : Own w base (.slice (some ⟨g, 0, none⟩) n cap) l) (k : Nat) (x : Int) :
    Own (w.setCell ⟨g, k, none⟩ (.int .u8 x)) base (.slice (some ⟨g, 0, none⟩) n cap) (l.set k x) ∧ w.grownBy (w.setCell ⟨g, k, none⟩ (.int .u8 x)) (some g) := by
  have hn : n = l.length := h.len
  subst hn
  obtain ⟨h1, h2⟩ := World.ownsRow.stored h k (.int .u8 x)
  refine ⟨?_, h2⟩
  unfold Own
  rw [List.length_set]
  have e : bs (l.set k x) = (bs l).set k (.int .u8 x) := by simp [bs, List.map_set]
  rw [e]
  exact h1

set_option maxHeartbeats 400000 in
theorem clone_some (x : Addr) (cap : Nat) (l : List Int) (w : World) (hrd : Rd w (some x) l) (hlen : l.length ≤ 1099511627776) :
    Calls Try.prog 10 #[.slice (some x) l.length cap] w fun e w' => ∃ v, e = .returned v ∧ Own w' w.heap.size v l ∧ w.grownBy w' none := by
  have hn := fun (w : World) (a : Option Addr) (n c n2 c2 : Nat) => Lib.run_eql_slice_nil (P := Try.prog) w _ _ a n c n2 c2 Try.underlying22
  obtain ⟨i0, hi, hz0, hz1, hz2⟩ := info_parts info5
  go_enter Try.func10, Try.ntmps10
  go_wp2_with (first | (at_make; refine wpList_make_full _ rfl _ _ 22 rfl w.heap.size 5 i0 (.int .u8 0) 1 Try.underlying22 hi hz0 hz1 _ _ _ _ l.length rfl rfl rfl rfl (by rw [hz2]; omega) (by unfold maxLen; omega) (Nat.le_refl _) ?_))
  intro w1 hown1 hgrow1
  have ho : Own w1 w.heap.size (.slice (some ⟨w.heap.size, 0, none⟩) l.length l.length) (List.replicate l.length 0) := by
    unfold Own
    rw [List.length_replicate]
    have e : bs (List.replicate l.length 0) = (madeCells #[Value.int .u8 0] l.length).toList := by
      rw [toList_madeCells_one]
      simp [bs]
    rw [e]
    exact hown1
  have hsz1 : w.heap.size < w1.heap.size := (ho.lt w.heap.size rfl).2
  clear hown1 hi hz0 hz1 hz2
  go_wp2
  go_loopw [4] (fun iv wr => ∃ k : Nat, k ≤ l.length ∧ iv = .int .i64 k ∧ Own wr w.heap.size (.slice (some ⟨w.heap.size, 0, none⟩) l.length l.length) (l.take k ++ List.replicate (l.length - k) 0) ∧ w.grownBy wr none) (fun iv _ => l.length - (intOf iv).toNat)
  case atStart => exact ⟨0, by omega, rfl, by simpa using ho, hgrow1⟩
  case round =>
    obtain ⟨k, hk, rfl, hown, hgr⟩ := hrel
    by_cases hlt : k < l.length
    · obtain ⟨b, off, e, hc⟩ := hrd k hlt
      cases e
      have hcx : wr.cell? ⟨b, off + k, none⟩ = some (.int .u8 (l.getD k 0)) := hgr.cell hc (by simp)
      obtain ⟨x, hx⟩ : ∃ x, l.getD k 0 = x := ⟨_, rfl⟩
      rw [hx] at hcx
      have hfr : wr.frozen? ⟨w.heap.size, k, none⟩ = false := hown.frozen k
      have hco : wr.cell? ⟨w.heap.size, k, none⟩ = some (.int .u8 0) := by
        rw [hown.cell k (by simp; omega)]
        have e1 : (l.take k).length = k := by simp; omega
        rw [List.getD, List.getElem?_append_right (by omega), e1, Nat.sub_self, List.getElem?_replicate, if_pos (by omega)]
        rfl
      obtain ⟨s1, s2⟩ := own_store hown k x
      have HS : Hid (Own (wr.setCell ⟨w.heap.size, k, none⟩ (.int .u8 x)) w.heap.size (.slice (some ⟨w.heap.size, 0, none⟩) l.length l.length) (l.take (k + 1) ++ List.replicate (l.length - (k + 1)) 0)) := by
        have e : (l.take k ++ List.replicate (l.length - k) 0).set k x = l.take (k + 1) ++ List.replicate (l.length - (k + 1)) 0 := by
          rw [List.set_append_right _ _ (by simp; omega)]
          have e1 : (l.take k).length = k := by simp; omega
          rw [e1, Nat.sub_self]
          obtain ⟨m, hm⟩ : ∃ m, l.length - k = m + 1 := ⟨l.length - k - 1, by omega⟩
          rw [hm, show l.length - (k + 1) = m by omega, List.replicate_succ, List.set_cons_zero, List.take_succ_eq_append_getElem hlt]
          have e2 : l[k] = x := by simpa [hlt] using hx
          rw [e2]
          simp
        rw [e] at s1
        exact s1
      have HG : Hid (w.grownBy (wr.setCell ⟨w.heap.size, k, none⟩ (.int .u8 x)) none) := ⟨s2.os.trans hgr.os, s2.tape.trans hgr.tape, s2.output.trans hgr.output, Nat.le_trans hgr.size s2.size, fun j hj _ => (s2.block j (Nat.lt_of_lt_of_le hj hgr.size) (by simp; omega)).trans (hgr.block j hj (by simp))⟩
      clear hx s1 s2 hown hgr hrd hc ho hgrow1
      go_wp2
      go_roundw
      case rel => exact ⟨k + 1, by omega, by go_num, HS.out, HG.out⟩
      case measure => simp [intOf]; omega
    · have HO : Hid (Own wr w.heap.size (.slice (some ⟨w.heap.size, 0, none⟩) l.length l.length) l) := by
        rw [List.take_of_length_le (by omega), show l.length - k = 0 by omega] at hown
        have h2 := hown
        rw [List.replicate_zero, List.append_nil] at h2
        exact h2
      have HG : Hid (w.grownBy wr none) := hgr
      clear hown hgr
      go_wp2
      go_ret
      exact ⟨_, rfl, HO.out, HG.out⟩

theorem clone_any (ao : Option Addr) (cap : Nat) (l : List Int) (w : World) (hrd : Rd w ao l) (hnil : ao = none → cap = 0) (hlen : l.length ≤ 1099511627776) :
    Calls Try.prog 10 #[.slice ao l.length cap] w fun e w' => ∃ v, e = .returned v ∧ Own w' w.heap.size v l ∧ w.grownBy w' none := by
  cases ao with
  | none =>
    obtain rfl := hnil rfl
    have hl : l = [] := by
      cases l with
      | nil => rfl
      | cons c l => obtain ⟨b, off, e, _⟩ := hrd 0 (by simp); cases e
    subst hl
    refine (clone_nil w).mono ?_
    rintro e w' ⟨rfl, rfl⟩
    exact ⟨_, rfl, Own.nil _ _, World.grownBy.refl _ _⟩
  | some x => exact clone_some x cap l w hrd hlen

theorem same_short (a1 a2 : Option Addr) (n1 c1 n2 c2 : Nat) (w : World) (h : ¬ n1 = n2) :
    Calls Try.prog 14 #[.slice a1 n1 c1, .slice a2 n2 c2] w fun e w' => e = .returned (.bool false) ∧ w' = w := by
  have hb : (((n1 : Nat) : Int) == (n2 : Int)) = false := by simp; omega
  go_enter Try.func14, Try.ntmps14
  go_wp2
  go_ret
  exact ⟨rfl, rfl⟩

set_option maxHeartbeats 400000 in
theorem same_long (b1 o1 b2 o2 : Nat) (c1 c2 : Nat) (l1 l2 : List Int) (w : World) (h : l1.length = l2.length) (hb : l1.length ≤ 1099511627776)
    (h1 : ∀ j, j < l1.length → w.cell? ⟨b1, o1 + j, none⟩ = some (.int .u8 (l1.getD j 0))) (h2 : ∀ j, j < l1.length → w.cell? ⟨b2, o2 + j, none⟩ = some (.int .u8 (l2.getD j 0))) :
    Calls Try.prog 14 #[.slice (some ⟨b1, o1, none⟩) l1.length c1, .slice (some ⟨b2, o2, none⟩) l1.length c2] w fun e w' => e = .returned (.bool (l1 == l2)) ∧ ∃ n, w' = w.drewN n := by
  have hbb : (((l1.length : Nat) : Int) == (l1.length : Int)) = true := by simp
  have H : Hid (l1.length = l2.length) := h
  clear h
  go_enter Try.func14, Try.ntmps14
  go_wp2
  go_loopw [5] (fun i wr => ∃ k : Nat, k ≤ l1.length ∧ i = .int .i64 k ∧ (∃ n, wr = w.drewN n) ∧ ∀ j, j < k → l1.getD j 0 = l2.getD j 0) (fun i _ => l1.length - (intOf i).toNat)
  case atStart => exact ⟨0, by omega, rfl, ⟨0, rfl⟩, fun j hj => by omega⟩
  case round =>
    obtain ⟨k, hk, rfl, ⟨nn, rfl⟩, hall⟩ := hrel
    have HA : Hid (∀ j, j < k → l1.getD j 0 = l2.getD j 0) := hall
    clear hall
    by_cases hlt : k < l1.length
    · have e1 := h1 k hlt
      have e2 := h2 k hlt
      clear h1 h2
      obtain ⟨x, hx⟩ : ∃ x, l1.getD k 0 = x := ⟨_, rfl⟩
      obtain ⟨y, hy⟩ : ∃ y, l2.getD k 0 = y := ⟨_, rfl⟩
      rw [hx] at e1
      rw [hy] at e2
      have Hx : Hid (l1.getD k 0 = x) := hx
      have Hy : Hid (l2.getD k 0 = y) := hy
      clear hx hy
      have hi : (k : Int) < (l1.length : Int) := by omega
      by_cases hxy : x = y
      · have hbx : (x != y) = false := by simpa using hxy
        go_wp2
        go_quiet (fail)
        go_wp2
        go_roundw
        case rel =>
          refine ⟨k + 1, by omega, by go_num, ⟨nn + nq, by first | rfl | rw [World.drewN_drewN]⟩, ?_⟩
          intro j hj
          by_cases hjk : j = k
          · subst hjk; rw [Hx.out, Hy.out, hxy]
          · exact HA.out j (by omega)
        case measure => simp [intOf]; omega
      · have hbx : (x != y) = true := by simpa using hxy
        go_wp2
        go_quiet (fail)
        go_wp2
        go_ret
        refine ⟨ret_bool ?_, ⟨nn + nq, by first | rfl | rw [World.drewN_drewN]⟩⟩
        symm
        rw [beq_eq_false_iff_ne]
        intro e
        apply hxy
        rw [← Hx.out, ← Hy.out, e]
    · go_wp2
      go_ret
      refine ⟨ret_bool ?_, ⟨nn, rfl⟩⟩
      symm
      rw [beq_iff_eq]
      apply List.ext_getElem H.out
      intro j hj1 hj2
      have := HA.out j (by omega)
      simpa [List.getD, hj1, hj2] using this

theorem same_any (a1 a2 : Option Addr) (c1 c2 : Nat) (l1 l2 : List Int) (w : World) (hb : l1.length ≤ 1099511627776) (h1 : Rd w a1 l1) (h2 : Rd w a2 l2) :
    Calls Try.prog 14 #[.slice a1 l1.length c1, .slice a2 l2.length c2] w fun e w' => e = .returned (.bool (l1 == l2)) ∧ ∃ n, w' = w.drewN n := by
  by_cases hlen : l1.length = l2.length
  · by_cases h0 : l1.length = 0
    · obtain rfl := List.eq_nil_of_length_eq_zero h0
      obtain rfl := List.eq_nil_of_length_eq_zero hlen.symm
      clear hlen h0 h1 h2
      go_enter Try.func14, Try.ntmps14
      go_wp2
      go_loop [5] (fun i => i = .int .i64 0) (fun i => 0)
      case atStart => rfl
      case round =>
        subst hrel
        go_wp2
        go_ret
        exact ⟨rfl, 0, rfl⟩
    · obtain ⟨b1, o1, rfl, _⟩ := h1 0 (by omega)
      obtain ⟨b2, o2, rfl, _⟩ := h2 0 (by omega)
      have := same_long b1 o1 b2 o2 c1 c2 l1 l2 w hlen hb (fun j hj => by obtain ⟨b, o, e, h⟩ := h1 j hj; cases e; exact h) (fun j hj => by obtain ⟨b, o, e, h⟩ := h2 j (by omega); cases e; exact h)
      rw [← hlen]
      exact this
  · refine (same_short a1 a2 l1.length c1 l2.length c2 w hlen).mono ?_
    rintro e w' ⟨rfl, rfl⟩
    refine ⟨ret_bool ?_, 0, rfl⟩
    symm
    rw [beq_eq_false_iff_ne]
    rintro rfl
    exact hlen rfl
theorem Rd.drewN {w : World} {ao : Option Addr} {l : List Int} (h : Rd w ao l) (n : Nat) : Rd (w.drewN n) ao l := h

theorem same_at (a1 a2 : Option Addr) (c1 c2 : Nat) (l1 l2 : List Int) (n1 n2 : Nat) (w : World) (hb : l1.length ≤ 1099511627776) (hn1 : l1.length = n1) (hn2 : l2.length = n2) (h1 : Rd w a1 l1) (h2 : Rd w a2 l2) :
    Calls Try.prog 14 #[.slice a1 n1 c1, .slice a2 n2 c2] w fun e w' => e = .returned (.bool (l1 == l2)) ∧ ∃ n, w' = w.drewN n := by
  subst hn1; subst hn2; exact same_any a1 a2 c1 c2 l1 l2 w hb h1 h2

theorem Own.rd {w : World} {base n cap : Nat} {ao : Option Addr} {l : List Int} (h : Own w base (.slice ao n cap) l) : Rd w ao l := by
  intro j hj
  rcases h.form with ⟨e, rfl⟩ | ⟨g, cap', e, _⟩
  · simp at hj
  · cases e
    exact ⟨g, 0, rfl, by rw [Nat.zero_add]; exact h.cell j hj⟩

end Go.Proofs.Qxb6600432a.Base
