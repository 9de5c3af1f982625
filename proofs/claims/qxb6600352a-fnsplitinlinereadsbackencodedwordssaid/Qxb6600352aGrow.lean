/-
  grow: room for the next element.
-/
import Derived.Test.Qxb6600352aMem2
namespace Go.Proofs.Qxb6600352a.Grow
open Go.RowKit
open Go.Proofs.Qxb6600352a.Plain Go.Proofs.Qxb6600352a.Mem Go.Proofs.Qxb6600352a.Base
set_option linter.unusedVariables false
set_option linter.unusedSimpArgs false

set_option maxHeartbeats 400000 in
theorem grow_full (ao : Option Addr) (n cap : Nat) (xs : List Value) (base total : Nat) (T : Int) (w : World) (hT : T = total) (hn : xs.length = n) (hown : OwnV w base (.slice ao n cap) xs) (hbase : base ≤ w.heap.size) (ht : n ≤ total) (hM : total ≤ 1099511627) (h1 : ∀ u ∈ xs, u.oneCell' = true) (hc : ¬ n < cap) :
    Calls Try.prog 37 #[.slice ao n cap, .int .i64 T, .int .i64 8] w fun e w' => ∃ v', e = .returned v' ∧ OwnV w' base v' xs ∧ GrewV w (.slice ao n cap) w' v' := by
  have H1 : Hid (∀ u ∈ xs, u.oneCell' = true) := h1
  have HN : Hid (xs.length = n) := hn
  subst hT
  clear h1 hn
  go_enter Try.func37, Try.ntmps37
  go_wp2
  go_loop [7] (fun rv => ∃ m : Nat, rv = .int .i64 m ∧ n ≤ m ∧ m ≤ total) (fun rv => (intOf rv).toNat)
  case atStart => exact ⟨total, rfl, ht, Nat.le_refl _⟩
  case round =>
    obtain ⟨m, rfl, hnm, hmt⟩ := hrel
    by_cases h8 : 8 < m
    · by_cases hh : n < (m + 1) / 2
      · go_wp2
        go_round
        case rel => exact ⟨(m + 1) / 2, by go_num, by omega, by omega⟩
        case measure => simp [intOf]; omega
      · obtain ⟨w1, w2, hmk, hcp, ho, hg⟩ := copy_over w (.slice ao n cap) xs base m hown hbase (by rw [HN.out]; exact hnm) (by omega) H1.out
        rw [HN.out] at hmk hcp ho
        have HO : Hid (OwnV w2 base (.slice (some ⟨w.heap.size, 0, none⟩) n m) xs) := ho
        have HG : Hid (w.grownBy w2 none) := hg
        clear ho hg hown
        go_wp2
        go_ret
        exact ⟨_, rfl, HO.out, ⟨⟨HG.out.os, HG.out.tape, HG.out.output, HG.out.size, fun k hk _ => HG.out.block k hk (by simp)⟩, .inr fun g hg => by cases hg; exact Nat.le_refl _⟩⟩
    · obtain ⟨w1, w2, hmk, hcp, ho, hg⟩ := copy_over w (.slice ao n cap) xs base m hown hbase (by rw [HN.out]; exact hnm) (by omega) H1.out
      rw [HN.out] at hmk hcp ho
      have HO : Hid (OwnV w2 base (.slice (some ⟨w.heap.size, 0, none⟩) n m) xs) := ho
      have HG : Hid (w.grownBy w2 none) := hg
      clear ho hg hown
      go_wp2
      go_ret
      exact ⟨_, rfl, HO.out, ⟨⟨HG.out.os, HG.out.tape, HG.out.output, HG.out.size, fun k hk _ => HG.out.block k hk (by simp)⟩, .inr fun g hg => by cases hg; exact Nat.le_refl _⟩⟩

theorem grow_any (v : Value) (xs : List Value) (base total : Nat) (T : Int) (w : World) (hT : T = total) (hown : OwnV w base v xs) (hbase : base ≤ w.heap.size) (ht : xs.length ≤ total) (hM : total ≤ 1099511627) (h1 : ∀ u ∈ xs, u.oneCell' = true) :
    Calls Try.prog 37 #[v, .int .i64 T, .int .i64 8] w fun e w' => ∃ v', e = .returned v' ∧ OwnV w' base v' xs ∧ GrewV w v w' v' := by
  obtain ⟨ao, cap, rfl⟩ : ∃ ao cap, v = .slice ao xs.length cap := by
    rcases hown.form with ⟨rfl, rfl⟩ | ⟨g, cap, rfl, _⟩
    · exact ⟨_, _, rfl⟩
    · exact ⟨_, _, rfl⟩
  by_cases hc : xs.length < cap
  · have HO : Hid (OwnV w base (.slice ao xs.length cap) xs) := hown
    clear hown h1
    go_enter Try.func37, Try.ntmps37
    go_wp2
    go_ret
    exact ⟨_, rfl, HO.out, GrewV.refl _ _⟩
  · exact grow_full ao xs.length cap xs base total T w hT rfl hown hbase ht hM h1 hc
end Go.Proofs.Qxb6600352a.Grow
