import Derived.Test.Qxb6600352aLeaf
import Derived.Test.Qxb6600352aMem
import Derived.WalkSpells
import Derived.Laws.CopyOwn
namespace Go.Proofs.Qxb6600352a.Base
open Go.RowKit
open Go.Proofs.Qxb6600352a.Plain Go.Proofs.Qxb6600352a.Mem
set_option linter.unusedVariables false

theorem info5 : (Try.prog.info? 5).map (fun i => (i.zero, i.size, i.bytes)) = some (some (.int .u8 0), 1, 1) := by kernel_rfl

def Rd (w : World) (ao : Option Addr) (l : List Int) : Prop := ∀ j, j < l.length → ∃ b off, ao = some ⟨b, off, none⟩ ∧ w.cell? ⟨b, off + j, none⟩ = some (.int .u8 (l.getD j 0))

theorem clone_nil (w : World) :
    Calls Try.prog 11 #[.slice none 0 0] w fun e w' => e = .returned (.slice none 0 0) ∧ w' = w := by
  have hn := fun (w : World) (a : Option Addr) (n c n2 c2 : Nat) => Lib.run_eql_slice_nil (P := Try.prog) w _ _ a n c n2 c2 Try.underlying22
  go_enter Try.func11, Try.ntmps11
  go_wp2
  go_ret
  exact ⟨rfl, rfl⟩

set_option maxHeartbeats 400000 in
theorem clone_some (x : Addr) (cap : Nat) (l : List Int) (w : World) (hrd : Rd w (some x) l) (hlen : l.length ≤ 1099511627776) :
    Calls Try.prog 11 #[.slice (some x) l.length cap] w fun e w' => ∃ v, e = .returned v ∧ Own w' w.heap.size v l ∧ w.grownBy w' none := by
  have hn := fun (w : World) (a : Option Addr) (n c n2 c2 : Nat) => Lib.run_eql_slice_nil (P := Try.prog) w _ _ a n c n2 c2 Try.underlying22
  obtain ⟨i0, hi, hz0, hz1, hz2⟩ := info_parts info5
  go_enter Try.func11, Try.ntmps11
  go_wp2_with (first | (at_make; refine wpList_make_full _ rfl _ _ 22 rfl w.heap.size 5 i0 (.int .u8 0) 1 Try.underlying22 hi hz0 hz1 _ _ _ _ l.length rfl rfl rfl rfl (by rw [hz2]; omega) (by unfold maxLen; omega) (Nat.le_refl _) ?_))
  intro w1 hown1 hgrow1
  obtain ⟨cur, hg, hcs⟩ : ∃ cur : Array Value, w1.heap[w.heap.size]? = some (.cells cur 5 (0, 0)) ∧ cur.size = l.length := by
    rcases hown1.2 with ⟨h, _⟩ | ⟨g', cap', cur, h, _, hg, _, _, hcs, _⟩
    · simp at h
    · simp only [Value.slice.injEq, Option.some.injEq, Addr.mk.injEq, and_true, true_and] at h
      obtain ⟨rfl, rfl⟩ := h
      exact ⟨cur, hg, by simpa using hcs⟩
  have hsrc : ∀ j v, (bs l)[j]? = some v → w1.cell? (x.add j) = some v := by
    intro j v hj
    have hlt : j < l.length := by
      have := (List.getElem?_eq_some_iff.1 hj).1
      simpa [bs] using this
    obtain ⟨b, off, e, hc⟩ := hrd j hlt
    cases e
    have e2 : w1.cell? ⟨b, off + j, none⟩ = some (.int .u8 (l.getD j 0)) := hgrow1.cell hc (by simp)
    rw [Addr.add_lit, e2]
    simp [bs, hlt] at hj ⊢
    exact hj
  obtain ⟨w2, hcp, hown2, hgrow2⟩ : ∃ w2, (Builtin.copy_ #[22, 22] 3 #[.slice (some ⟨w.heap.size, 0, none⟩) l.length l.length, .slice (some x) l.length cap]).run Try.prog w1 = .ok (goInt l.length) w2 ∧
      Hid (Own w2 w.heap.size (.slice (some ⟨w.heap.size, 0, none⟩) l.length l.length) l) ∧ Hid (w.grownBy w2 none) := by
    have hrun := run_copy_row (P := Try.prog) w1 22 22 3 5 w.heap.size 0 l.length l.length x l.length cap cur 5 (bs l) Try.underlying22 (by rw [hi]; simp [hz1]) hg (by simp [bs]) hsrc (by rw [hcs]; simp [bs]) (ints_oneCell .u8 l)
    have hlb : (bs l).length = l.length := by simp [bs]
    rw [hlb] at hrun
    refine ⟨_, hrun, ?_, ?_⟩
    · refine ⟨by simp [bs], .inr ⟨w.heap.size, l.length, _, rfl, Nat.le_refl _, setRow_heap w1 _ _ _ 5 _ hg, Nat.le_refl _, by unfold maxLen; omega, ?_, ?_⟩⟩
      · simp [hlb, hcs]
      · simp [hlb]
    · exact ⟨hgrow1.os, hgrow1.tape, hgrow1.output, by simpa using hgrow1.size, fun k hk hne => by rw [setRow_other _ _ _ _ (by omega)]; exact hgrow1.block k hk hne⟩
  clear hsrc hg hcs hgrow1 hown1 hrd
  go_wp2
  go_ret
  exact ⟨_, rfl, hown2.out, hgrow2.out⟩

theorem clone_any (ao : Option Addr) (cap : Nat) (l : List Int) (w : World) (hrd : Rd w ao l) (hnil : ao = none → cap = 0) (hlen : l.length ≤ 1099511627776) :
    Calls Try.prog 11 #[.slice ao l.length cap] w fun e w' => ∃ v, e = .returned v ∧ Own w' w.heap.size v l ∧ w.grownBy w' none := by
  cases ao with
  | none =>
    obtain rfl := hnil rfl
    have hl : l = [] := by
      cases l with
      | nil => rfl
      | cons c l => obtain ⟨b, off, e, _⟩ := hrd 0 (by simp); cases e
    subst hl
    refine (clone_nil w).mono ?_
    rintro e w' ⟨rfl, rfl⟩
    exact ⟨_, rfl, Own.nil _ _, World.grownBy.refl _ _⟩
  | some x => exact clone_some x cap l w hrd hlen

theorem same_short (a1 a2 : Option Addr) (n1 c1 n2 c2 : Nat) (w : World) (h : ¬ n1 = n2) :
    Calls Try.prog 14 #[.slice a1 n1 c1, .slice a2 n2 c2] w fun e w' => e = .returned (.bool false) ∧ w' = w := by
  have hb : (((n1 : Nat) : Int) == (n2 : Int)) = false := by simp; omega
  go_enter Try.func14, Try.ntmps14
  go_wp2
  go_ret
  exact ⟨rfl, rfl⟩

set_option maxHeartbeats 400000 in
theorem same_long (b1 o1 b2 o2 : Nat) (c1 c2 : Nat) (l1 l2 : List Int) (w : World) (h : l1.length = l2.length) (hb : l1.length ≤ 1099511627776)
    (h1 : ∀ j, j < l1.length → w.cell? ⟨b1, o1 + j, none⟩ = some (.int .u8 (l1.getD j 0))) (h2 : ∀ j, j < l1.length → w.cell? ⟨b2, o2 + j, none⟩ = some (.int .u8 (l2.getD j 0))) :
    Calls Try.prog 14 #[.slice (some ⟨b1, o1, none⟩) l1.length c1, .slice (some ⟨b2, o2, none⟩) l1.length c2] w fun e w' => e = .returned (.bool (l1 == l2)) ∧ ∃ n, w' = w.drewN n := by
  have hbb : (((l1.length : Nat) : Int) == (l1.length : Int)) = true := by simp
  have H : Hid (l1.length = l2.length) := h
  clear h
  go_enter Try.func14, Try.ntmps14
  go_wp2
  go_loopw [5] (fun i wr => ∃ k : Nat, k ≤ l1.length ∧ i = .int .i64 k ∧ (∃ n, wr = w.drewN n) ∧ ∀ j, j < k → l1.getD j 0 = l2.getD j 0) (fun i _ => l1.length - (intOf i).toNat)
  case atStart => exact ⟨0, by omega, rfl, ⟨0, rfl⟩, fun j hj => by omega⟩
  case round =>
    obtain ⟨k, hk, rfl, ⟨nn, rfl⟩, hall⟩ := hrel
    have HA : Hid (∀ j, j < k → l1.getD j 0 = l2.getD j 0) := hall
    clear hall
    by_cases hlt : k < l1.length
    · have e1 := h1 k hlt
      have e2 := h2 k hlt
      clear h1 h2
      obtain ⟨x, hx⟩ : ∃ x, l1.getD k 0 = x := ⟨_, rfl⟩
      obtain ⟨y, hy⟩ : ∃ y, l2.getD k 0 = y := ⟨_, rfl⟩
      rw [hx] at e1
      rw [hy] at e2
      have Hx : Hid (l1.getD k 0 = x) := hx
      have Hy : Hid (l2.getD k 0 = y) := hy
      clear hx hy
      have hi : (k : Int) < (l1.length : Int) := by omega
      by_cases hxy : x = y
      · have hbx : (x != y) = false := by simpa using hxy
        go_wp2
        go_quiet (fail)
        go_wp2
        go_roundw
        case rel =>
          refine ⟨k + 1, by omega, by go_num, ⟨nn + nq, by first | rfl | rw [World.drewN_drewN]⟩, ?_⟩
          intro j hj
          by_cases hjk : j = k
          · subst hjk; rw [Hx.out, Hy.out, hxy]
          · exact HA.out j (by omega)
        case measure => simp [intOf]; omega
      · have hbx : (x != y) = true := by simpa using hxy
        go_wp2
        go_quiet (fail)
        go_wp2
        go_ret
        refine ⟨Leaf.ret_bool ?_, ⟨nn + nq, by first | rfl | rw [World.drewN_drewN]⟩⟩
        symm
        rw [beq_eq_false_iff_ne]
        intro e
        apply hxy
        rw [← Hx.out, ← Hy.out, e]
    · go_wp2
      go_ret
      refine ⟨Leaf.ret_bool ?_, ⟨nn, rfl⟩⟩
      symm
      rw [beq_iff_eq]
      apply List.ext_getElem H.out
      intro j hj1 hj2
      have := HA.out j (by omega)
      simpa [List.getD, hj1, hj2] using this

theorem same_any (a1 a2 : Option Addr) (c1 c2 : Nat) (l1 l2 : List Int) (w : World) (hb : l1.length ≤ 1099511627776) (h1 : Rd w a1 l1) (h2 : Rd w a2 l2) :
    Calls Try.prog 14 #[.slice a1 l1.length c1, .slice a2 l2.length c2] w fun e w' => e = .returned (.bool (l1 == l2)) ∧ ∃ n, w' = w.drewN n := by
  by_cases hlen : l1.length = l2.length
  · by_cases h0 : l1.length = 0
    · obtain rfl := List.eq_nil_of_length_eq_zero h0
      obtain rfl := List.eq_nil_of_length_eq_zero hlen.symm
      clear hlen h0 h1 h2
      go_enter Try.func14, Try.ntmps14
      go_wp2
      go_loop [5] (fun i => i = .int .i64 0) (fun i => 0)
      case atStart => rfl
      case round =>
        subst hrel
        go_wp2
        go_ret
        exact ⟨rfl, 0, rfl⟩
    · obtain ⟨b1, o1, rfl, _⟩ := h1 0 (by omega)
      obtain ⟨b2, o2, rfl, _⟩ := h2 0 (by omega)
      have := same_long b1 o1 b2 o2 c1 c2 l1 l2 w hlen hb (fun j hj => by obtain ⟨b, o, e, h⟩ := h1 j hj; cases e; exact h) (fun j hj => by obtain ⟨b, o, e, h⟩ := h2 j (by omega); cases e; exact h)
      rw [← hlen]
      exact this
  · refine (same_short a1 a2 l1.length c1 l2.length c2 w hlen).mono ?_
    rintro e w' ⟨rfl, rfl⟩
    refine ⟨Leaf.ret_bool ?_, 0, rfl⟩
    symm
    rw [beq_eq_false_iff_ne]
    rintro rfl
    exact hlen rfl
end Go.Proofs.Qxb6600352a.Base
