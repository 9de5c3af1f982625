/-
  Slices of strings: what is read of one (RdS), one of the call's own (OwnS), zzStringBytes, zzCloneStrings.
-/
import Derived.Test.Qxb6600432aTopA
import Derived.Sort.EncStr
namespace Go.Proofs.Qxb6600432a.Str
open Go.RowKit
open Go.Proofs.Qxb6600432a.Mem Go.Proofs.Qxb6600432a.Top
set_option linter.unusedVariables false
set_option linter.unusedSimpArgs false

/-- A string of the program, by its bytes. -/
def str (x : List UInt8) : ByteArray := ⟨x.toArray⟩
abbrev sv (x : List UInt8) : Value := .string (str x)
theorem str_size (x : List UInt8) : (str x).size = x.length := by simp [str, ByteArray.size]
theorem str_enc (x : List UInt8) : encStr x = Value.string (str x) := rfl
theorem str_list (x : List UInt8) : (str x).data.toList = x := by simp [str]
theorem str_inj {x y : List UInt8} (h : str x = str y) : x = y := by rw [← str_list x, ← str_list y, h]

def RdS (w : World) (ao : Option Addr) (ss : List (List UInt8)) : Prop := ∀ j, j < ss.length → ∃ b off, ao = some ⟨b, off, none⟩ ∧ w.cell? ⟨b, off + j, none⟩ = some (.string (str (ss.getD j [])))
theorem RdS.grown {w w' : World} {ao : Option Addr} {l : List (List UInt8)} (h : RdS w ao l) (g : w.grownBy w' none) : RdS w' ao l := by
  intro j hj
  obtain ⟨b, off, e, hc⟩ := h j hj
  exact ⟨b, off, e, g.cell hc (by simp)⟩

theorem getD_mem {α : Type} (l : List α) (j : Nat) (d : α) (h : j < l.length) : l.getD j d ∈ l := by simp [List.getD, h]

set_option maxHeartbeats 400000 in
theorem strBytes_any (ao : Option Addr) (n cap : Nat) (ss : List (List UInt8)) (w : World) (hn : ss.length = n) (hrd : RdS w ao ss) (hb : n ≤ 1048576) (hl : ∀ x ∈ ss, x.length ≤ maxLen) :
    Calls Try.prog 18 #[.slice ao n cap] w fun e w' => (∃ m : Nat, e = .returned (.int .i64 m) ∧ m ≤ 2097152) ∧ w' = w := by
  have HR : Hid (RdS w ao ss) := hrd
  have HN : Hid (ss.length = n) := hn
  have HL : Hid (∀ x ∈ ss, x.length ≤ maxLen) := hl
  clear hrd hn hl
  go_enter Try.func18, Try.ntmps18
  go_wp2
  go_loop [3, 4] (fun nv iv => ∃ k m : Nat, k ≤ n ∧ m ≤ 1048576 ∧ nv = .int .i64 m ∧ iv = .int .i64 k) (fun nv iv => n - (intOf iv).toNat)
  case atStart => exact ⟨0, 0, by omega, by omega, rfl, rfl⟩
  case round =>
    obtain ⟨k, m, hk, hm, rfl, rfl⟩ := hrel
    by_cases hlt : k < n
    · obtain ⟨b, off, rfl, hc⟩ := HR.out k (by rw [HN.out]; exact hlt)
      have hs : (str (ss.getD k [])).size ≤ 9223372036854775807 := by rw [str_size]; exact HL.out _ (getD_mem _ _ _ (by rw [HN.out]; exact hlt))
      generalize str (ss.getD k []) = s at *
      by_cases h1 : 1048576 < s.size
      · go_wp2
        go_ret
        exact ⟨⟨2097152, rfl, by omega⟩, rfl⟩
      · by_cases h2 : 1048576 < m + (16 + s.size)
        · go_wp2
          go_ret
          exact ⟨⟨2097152, rfl, by omega⟩, rfl⟩
        · go_wp2
          go_round
          case rel => exact ⟨k + 1, m + (16 + s.size), by omega, by omega, by go_num, by go_num⟩
          case measure => simp [intOf]; omega
    · go_wp2
      go_ret
      exact ⟨⟨m, rfl, by omega⟩, rfl⟩
theorem info9 : (Try.prog.info? 9).map (fun i => (i.zero, i.size, i.bytes)) = some (some (.string (str [])), 1, 16) := by kernel_rfl

def OwnS (w : World) (base : Nat) (v : Value) (l : List (List UInt8)) : Prop := w.ownsRow base 9 1 v l.length (l.map sv)
theorem OwnS.cell {w : World} {base g n cap : Nat} {l : List (List UInt8)} (hn : l.length = n) (h : OwnS w base (.slice (some ⟨g, 0, none⟩) n cap) l) (j : Nat) (hj : j < l.length) : w.cell? ⟨g, j, none⟩ = some (.string (str (l.getD j []))) := by
  subst hn
  have := World.ownsRow.cellAt h j (by simpa using hj)
  rw [this]
  simp [hj]
theorem OwnS.frozen {w : World} {base g n cap : Nat} {l : List (List UInt8)} (hn : l.length = n) (h : OwnS w base (.slice (some ⟨g, 0, none⟩) n cap) l) (j : Nat) : w.frozen? ⟨g, j, none⟩ = false := by
  subst hn
  exact World.ownsRow.frozenAt h j
theorem ownS_store {w : World} {base g n cap : Nat} {l : List (List UInt8)} (hn : l.length = n) (h : OwnS w base (.slice (some ⟨g, 0, none⟩) n cap) l) (k : Nat) (x : List UInt8) :
    OwnS (w.setCell ⟨g, k, none⟩ (.string (str x))) base (.slice (some ⟨g, 0, none⟩) n cap) (l.set k x) ∧ w.grownBy (w.setCell ⟨g, k, none⟩ (.string (str x))) (some g) := by
  subst hn
  obtain ⟨h1, h2⟩ := World.ownsRow.stored h k (.string (str x))
  refine ⟨?_, h2⟩
  unfold OwnS
  rw [List.length_set]
  have e : (l.set k x).map sv = (l.map sv).set k (.string (str x)) := by simp [List.map_set]
  rw [e]
  exact h1

theorem cloneS_nil (w : World) :
    Calls Try.prog 19 #[.slice none 0 0] w fun e w' => e = .returned (.slice none 0 0) ∧ w' = w := by
  have hn := fun (w : World) (a : Option Addr) (n c n2 c2 : Nat) => Lib.run_eql_slice_nil (P := Try.prog) w _ _ a n c n2 c2 Try.underlying34
  go_enter Try.func19, Try.ntmps19
  go_wp2
  go_ret
  exact ⟨rfl, rfl⟩

set_option maxHeartbeats 400000 in
theorem cloneS_some (x : Addr) (cap : Nat) (l : List (List UInt8)) (w : World) (hrd : RdS w (some x) l) (hlen : l.length ≤ 1099511627776) :
    Calls Try.prog 19 #[.slice (some x) l.length cap] w fun e w' => ∃ a c, e = .returned (.slice a l.length c) ∧ RdS w' a l ∧ w.grownBy w' none := by
  have hn := fun (w : World) (a : Option Addr) (n c n2 c2 : Nat) => Lib.run_eql_slice_nil (P := Try.prog) w _ _ a n c n2 c2 Try.underlying34
  obtain ⟨i0, hi, hz0, hz1, hz2⟩ := info_parts info9
  go_enter Try.func19, Try.ntmps19
  go_wp2_with (first | (at_make; refine wpList_make_full _ rfl _ _ 34 rfl w.heap.size 9 i0 (.string (str [])) 1 Try.underlying34 hi hz0 hz1 _ _ _ _ l.length rfl rfl rfl rfl (by rw [hz2]; omega) (by unfold maxLen; omega) (Nat.le_refl _) ?_))
  intro w1 hown1 hgrow1
  have ho : OwnS w1 w.heap.size (.slice (some ⟨w.heap.size, 0, none⟩) l.length l.length) (List.replicate l.length []) := by
    unfold OwnS
    rw [List.length_replicate]
    have e : (List.replicate l.length []).map sv = (madeCells #[Value.string (str [])] l.length).toList := by
      rw [toList_madeCells_one]
      simp
    rw [e]
    exact hown1
  have hsz1 : w.heap.size < w1.heap.size := (World.ownsRow.lt ho w.heap.size rfl).2
  clear hown1 hi hz0 hz1 hz2
  go_wp2
  go_loopw [4] (fun iv wr => ∃ k : Nat, k ≤ l.length ∧ iv = .int .i64 k ∧ OwnS wr w.heap.size (.slice (some ⟨w.heap.size, 0, none⟩) l.length l.length) (l.take k ++ List.replicate (l.length - k) []) ∧ w.grownBy wr none) (fun iv _ => l.length - (intOf iv).toNat)
  case atStart => exact ⟨0, by omega, rfl, by simpa using ho, hgrow1⟩
  case round =>
    obtain ⟨k, hk, rfl, hown, hgr⟩ := hrel
    have hln : (l.take k ++ List.replicate (l.length - k) []).length = l.length := by simp; omega
    by_cases hlt : k < l.length
    · obtain ⟨b, off, e, hc⟩ := hrd k hlt
      cases e
      have hcx : wr.cell? ⟨b, off + k, none⟩ = some (.string (str (l.getD k []))) := hgr.cell hc (by simp)
      obtain ⟨x, hx⟩ : ∃ x, l.getD k [] = x := ⟨_, rfl⟩
      rw [hx] at hcx
      have hfr : wr.frozen? ⟨w.heap.size, k, none⟩ = false := hown.frozen hln k
      have hco : wr.cell? ⟨w.heap.size, k, none⟩ = some (.string (str [])) := by
        rw [hown.cell hln k (by omega)]
        have e1 : (l.take k).length = k := by simp; omega
        rw [List.getD, List.getElem?_append_right (by omega), e1, Nat.sub_self, List.getElem?_replicate, if_pos (by omega)]
        rfl
      obtain ⟨s1, s2⟩ := ownS_store hln hown k x
      have HS : Hid (OwnS (wr.setCell ⟨w.heap.size, k, none⟩ (.string (str x))) w.heap.size (.slice (some ⟨w.heap.size, 0, none⟩) l.length l.length) (l.take (k + 1) ++ List.replicate (l.length - (k + 1)) [])) := by
        have e : (l.take k ++ List.replicate (l.length - k) []).set k x = l.take (k + 1) ++ List.replicate (l.length - (k + 1)) [] := by
          rw [List.set_append_right _ _ (by simp; omega)]
          have e1 : (l.take k).length = k := by simp; omega
          rw [e1, Nat.sub_self]
          obtain ⟨m, hm⟩ : ∃ m, l.length - k = m + 1 := ⟨l.length - k - 1, by omega⟩
          rw [hm, show l.length - (k + 1) = m by omega, List.replicate_succ, List.set_cons_zero, List.take_succ_eq_append_getElem hlt]
          have e2 : l[k] = x := by simpa [hlt] using hx
          rw [e2]
          simp
        rw [e] at s1
        exact s1
      have HG : Hid (w.grownBy (wr.setCell ⟨w.heap.size, k, none⟩ (.string (str x))) none) := ⟨s2.os.trans hgr.os, s2.tape.trans hgr.tape, s2.output.trans hgr.output, Nat.le_trans hgr.size s2.size, fun j hj _ => (s2.block j (Nat.lt_of_lt_of_le hj hgr.size) (by simp; omega)).trans (hgr.block j hj (by simp))⟩
      clear hx s1 s2 hown hgr hrd hc ho hgrow1 hln
      go_wp2
      go_roundw
      case rel => exact ⟨k + 1, by omega, by go_num, HS.out, HG.out⟩
      case measure => simp [intOf]; omega
    · have HO : Hid (OwnS wr w.heap.size (.slice (some ⟨w.heap.size, 0, none⟩) l.length l.length) l) := by
        rw [List.take_of_length_le (by omega), show l.length - k = 0 by omega] at hown
        have h2 := hown
        rw [List.replicate_zero, List.append_nil] at h2
        exact h2
      have HG : Hid (w.grownBy wr none) := hgr
      clear hown hgr hln
      go_wp2
      go_ret
      exact ⟨_, _, rfl, fun j hj => ⟨w.heap.size, 0, rfl, by rw [Nat.zero_add]; exact HO.out.cell rfl j hj⟩, HG.out⟩

theorem cloneS_any (ao : Option Addr) (cap n : Nat) (l : List (List UInt8)) (w : World) (hn : l.length = n) (hrd : RdS w ao l) (hnil : ao = none → cap = 0) (hlen : n ≤ 1099511627776) :
    Calls Try.prog 19 #[.slice ao n cap] w fun e w' => ∃ a c, e = .returned (.slice a n c) ∧ RdS w' a l ∧ w.grownBy w' none := by
  subst hn
  cases ao with
  | none =>
    obtain rfl := hnil rfl
    have hl : l = [] := by
      cases l with
      | nil => rfl
      | cons c l => obtain ⟨b, off, e, _⟩ := hrd 0 (by simp); cases e
    subst hl
    refine (cloneS_nil w).mono ?_
    rintro e w' ⟨rfl, rfl⟩
    exact ⟨_, _, rfl, fun j hj => by simp at hj, World.grownBy.refl _ _⟩
  | some x => exact cloneS_some x cap l w hrd hlen

end Go.Proofs.Qxb6600432a.Str
