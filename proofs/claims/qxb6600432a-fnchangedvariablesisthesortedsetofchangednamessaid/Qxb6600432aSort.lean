/-
  slices.Sort at []string, laid at this program.
-/
import Derived.Test.Qxb6600432aMaps
import Derived.Shelf.Sort.Plain
import Derived.Shelf.Lay
import Derived.Sort.OwnSorted
namespace Go.Proofs
open Go.RowKit
shelf_lay Lays.n190 Nm 190 at Try as Try.lays190
shelf_lay Lays.n125 Nm 125 at Try as Try.lays125
end Go.Proofs
namespace Go.Proofs.Qxb6600432a.Sort
open Go.RowKit Go.Sort

theorem sort_some (blk off cap : Nat) (ss : List (List UInt8)) (w : World) (hH : Holds encStr w blk off ss.toArray) (hblk : blk < w.heap.size) (hsz : ss.length < 4611686018427387904) :
    Calls Try.prog 28 #[.slice (some ⟨blk, off, none⟩) ss.length cap] w fun e w' =>
      e = .returned (.tuple #[]) ∧ ∃ n os, w' = grow (putRow encStr (Sort.ahead w n) blk off (ss.mergeSort fun x y => decide (x ≤ y)).toArray) os :=
  Any.slices_Sort_string Try.lays190 blk off cap ss w hH hblk hsz

theorem insertionSort_nil (p : Option Addr) (cap : Nat) (w : World) :
    Calls Try.prog 31 #[.slice p 0 cap, .int .i64 0, .int .i64 0] w fun e w' => e = .returned (.tuple #[]) ∧ w' = w := by
  go_enter Try.func31, Try.ntmps31
  go_wp2
  refine wp_loop_rounds 1 ?_
  rw [rounds_succ]
  go_wp2
  go_end0
  exact ⟨rfl, rfl⟩

set_option maxRecDepth 100000 in
theorem pdqsort_nil (p : Option Addr) (cap : Nat) (w : World) :
    Calls Try.prog 29 #[.slice p 0 cap, .int .i64 0, .int .i64 0, .int .i64 0] w fun e w' => e = .returned (.tuple #[]) ∧ w' = w := by
  go_enter Try.func29, Try.ntmps29
  go_wp2
  refine wp_loop_rounds 1 ?_
  rw [rounds_succ]
  go_wp2_with (first | (go_at_call 31; refine (insertionSort_nil p cap _).mono ?_; rintro e w' ⟨rfl, rfl⟩))
  refine bodyPost_ret (results_none rfl _ _ _) rfl ?_
  exact ⟨rfl, rfl⟩

set_option maxRecDepth 100000 in
theorem sort_nil (p : Option Addr) (cap : Nat) (w : World) :
    Calls Try.prog 28 #[.slice p 0 cap] w fun e w' => e = .returned (.tuple #[]) ∧ w' = w := by
  have hLen : ∀ w, Calls Try.prog 30 #[.int .u64 0] w fun e w' => e = .returned (.int .i64 0) ∧ w' = w := fun w => calls_of_every_depth fun D => AnyS.bits_LenInS Try.lays125 D 0 w (by omega) (by omega)
  go_enter Try.func28, Try.ntmps28
  go_wp2_with (first
    | (go_at_call 30; refine (hLen _).mono ?_; rintro e w' ⟨rfl, rfl⟩)
    | (go_at_call 29; refine (pdqsort_nil p cap _).mono ?_; rintro e w' ⟨rfl, rfl⟩))
  go_end0
  exact ⟨rfl, rfl⟩

open Go.Proofs.Qxb6600432a.Str in
theorem sort_own (w : World) (base : Nat) (v : Value) (ss : List (List UInt8)) (h : OwnS w base v ss) (hl : ss.length ≤ 1099511627776) :
    Calls Try.prog 28 #[v] w fun e w' => e = .returned (.tuple #[]) ∧ OwnS w' base v (ss.mergeSort fun x y => decide (x ≤ y)) ∧ w.grownBy w' v.ownBlock := by
  rcases h.2 with ⟨rfl, h0⟩ | ⟨g, cap, cur, rfl, hbase, hb, h1, h2, h3, h4⟩
  · obtain rfl : ss = [] := List.eq_nil_of_length_eq_zero h0
    refine (sort_nil none 0 w).mono ?_
    rintro e w' ⟨rfl, rfl⟩
    exact ⟨rfl, by simpa using h, World.grownBy.refl _ _⟩
  · have hH : Holds encStr w g 0 ss.toArray := holds_of_block hb (by rw [Nat.mul_one] at h4; exact h4)
    refine (sort_some g 0 cap ss w hH (Array.getElem?_eq_some_iff.1 hb).1 (by omega)).mono ?_
    rintro e w' ⟨rfl, nn, os, rfl⟩
    refine ⟨rfl, ?_, grownBy_sorted _⟩
    have hr := ownsRow_sorted (os := os) (n := nn) (ss := ss) (ts := ss.mergeSort fun x y => decide (x ≤ y)) (by simp) hbase hb h1 h2 h3
    unfold OwnS
    have e : (ss.mergeSort fun x y => decide (x ≤ y)).length = ss.length := by simp
    rw [e]
    exact hr
end Go.Proofs.Qxb6600432a.Sort
