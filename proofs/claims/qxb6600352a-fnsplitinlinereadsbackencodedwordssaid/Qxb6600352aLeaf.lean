/-
  Contracts of the small functions on bytes.
-/
import Derived.Test.Qxb6600352aRows
import Derived.WalkKit
import Derived.ProofKit
import Derived.WalkLawsBesides
import Derived.Deep.QuietTactic
import Derived.BigQuiet
import Derived.Test.Qxb6600352aPlain
namespace Go.Proofs.Qxb6600352a.Leaf
open Go.RowKit
open Go.Proofs.Qxb6600352a.Plain
set_option linter.unusedVariables false

theorem ret_bool {a b : Bool} (h : a = b) : Ending.returned (.bool a) = .returned (.bool b) := by rw [h]
theorem ret_int {k : IntKind} {a b : Int} (h : a = b) : Ending.returned (.int k a) = .returned (.int k b) := by rw [h]

theorem isSpace_any (c : Int) (w : World) :
    Calls Try.prog 36 #[.int .u8 c] w fun e w' => e = .returned (.bool (isSp c)) ∧ w' = w := by
  unfold isSp
  go_enter Try.func36, Try.ntmps36
  go_wp2
  all_goals (go_ret; exact ⟨by simp [*], rfl⟩)

theorem blank_any (c : Int) (w : World) :
    Calls Try.prog 29 #[.int .u8 c] w fun e w' => e = .returned (.bool (isSp c)) ∧ w' = w := by
  go_enter Try.func29, Try.ntmps29
  go_wp2
  all_goals (go_ret; exact ⟨ret_bool (by rw [Bool.eq_iff_iff, isSp_iff]; simp; omega), rfl⟩)

theorem ends_any (c : Int) (w : World) :
    Calls Try.prog 32 #[.int .u8 c] w fun e w' => e = .returned (.bool (ends c)) ∧ w' = w := by
  unfold ends
  go_enter Try.func32, Try.ntmps32
  go_wp2
  all_goals (go_ret; exact ⟨by simp [*], rfl⟩)

theorem isHex_any (c : Int) (w : World) :
    Calls Try.prog 38 #[.int .u8 c] w fun e w' => e = .returned (.bool (isHx c)) ∧ w' = w := by
  go_enter Try.func38, Try.ntmps38
  go_wp2
  all_goals (go_ret; exact ⟨ret_bool (by rw [Bool.eq_iff_iff, isHx_iff]; simp; omega), rfl⟩)

theorem unescape_any (c : Int) (w : World) :
    Calls Try.prog 40 #[.int .u8 c] w fun e w' => e = .returned (.int .u8 (unesc c)) ∧ w' = w := by
  go_enter Try.func40, Try.ntmps40
  go_wp2
  all_goals (go_ret; exact ⟨ret_int (by simp_all [unesc]), rfl⟩)

theorem zzUnescape_any (c : Int) (w : World) :
    Calls Try.prog 33 #[.int .u8 c] w fun e w' => e = .returned (.int .u8 (unesc c)) ∧ w' = w := by
  go_enter Try.func33, Try.ntmps33
  go_wp2
  all_goals (go_ret; exact ⟨ret_int (by simp_all [unesc]), rfl⟩)

theorem hexValue_any (c : Int) (w : World) (h : isHx c = true) :
    Calls Try.prog 39 #[.int .u8 c] w fun e w' => e = .returned (.int .u8 (hexV c)) ∧ w' = w := by
  rw [isHx_iff] at h
  unfold hexV
  go_enter Try.func39, Try.ntmps39
  go_wp2
  all_goals (go_ret; exact ⟨ret_int (by omega), rfl⟩)

theorem lower_at (k : Nat) (h : k < 16) : ((({ data := #[48, 49, 50, 51, 52, 53, 54, 55, 56, 57, 97, 98, 99, 100, 101, 102] } : ByteArray)[k]'h).toNat : Int) = lo k := by
  have H : ∀ k : Fin 16, ((({ data := #[48, 49, 50, 51, 52, 53, 54, 55, 56, 57, 97, 98, 99, 100, 101, 102] } : ByteArray)[k.1]'k.2).toNat : Int) = lo k.1 := by decide
  exact H ⟨k, h⟩
theorem upper_at (k : Nat) (h : k < 16) : ((({ data := #[48, 49, 50, 51, 52, 53, 54, 55, 56, 57, 65, 66, 67, 68, 69, 70] } : ByteArray)[k]'h).toNat : Int) = up k := by
  have H : ∀ k : Fin 16, ((({ data := #[48, 49, 50, 51, 52, 53, 54, 55, 56, 57, 65, 66, 67, 68, 69, 70] } : ByteArray)[k.1]'k.2).toNat : Int) = up k.1 := by decide
  exact H ⟨k, h⟩

theorem hexVal_any (c : Int) (w : World) :
    Calls Try.prog 34 #[.int .u8 c] w fun e w' => e = .returned (.int .i64 (hexS c)) ∧ w' = w := by
  go_enter Try.func34, Try.ntmps34
  go_wp2
  go_loop [3] (fun i => ∃ k : Nat, k ≤ 16 ∧ i = .int .i64 k ∧ ∀ j, j < k → ¬ lo j = c ∧ ¬ up j = c) (fun i => 16 - (intOf i).toNat)
  case atStart => exact ⟨0, by omega, rfl, fun j hj => by omega⟩
  case round =>
    obtain ⟨k, hk, rfl, hn⟩ := hrel
    by_cases hlt : k < 16
    · have HL := lower_at k hlt
      have HU := upper_at k hlt
      have HN : Hid (∀ j, j < k → ¬ lo j = c ∧ ¬ up j = c) := hn
      clear hn
      by_cases h1 : lo k = c
      · have hb : (lo k == c) = true := by simpa using h1
        have HE : Hid (hexS c = k) := hexS_lo k hlt c (.inl h1)
        clear h1
        go_wp2
        all_goals (go_ret; exact ⟨ret_int HE.out.symm, rfl⟩)
      · by_cases h2 : up k = c
        · have hb : (lo k == c) = false := by simpa using h1
          have hb2 : (up k == c) = true := by simpa using h2
          have HE : Hid (hexS c = k) := hexS_lo k hlt c (.inr h2)
          clear h1 h2
          go_wp2
          all_goals (go_ret; exact ⟨ret_int HE.out.symm, rfl⟩)
        · have hb : (lo k == c) = false := by simpa using h1
          have hb2 : (up k == c) = false := by simpa using h2
          have HE : Hid (∀ j, j < k + 1 → ¬ lo j = c ∧ ¬ up j = c) := by
            intro j hj
            by_cases hjk : j = k
            · subst hjk; exact ⟨h1, h2⟩
            · exact HN.out j (by omega)
          clear h1 h2
          go_wp2
          all_goals
            go_round
            case rel => exact ⟨k + 1, by omega, by go_num, HE.out⟩
            case measure => simp [intOf]; omega
    · have hk16 : k = 16 := by omega
      subst hk16
      have HE : Hid (hexS c = -1) := hexS_none c hn
      clear hn
      go_wp2
      all_goals (go_ret; exact ⟨ret_int HE.out.symm, rfl⟩)
end Go.Proofs.Qxb6600352a.Leaf
