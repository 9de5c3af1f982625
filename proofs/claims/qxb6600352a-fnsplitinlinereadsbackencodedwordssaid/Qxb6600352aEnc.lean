/-
  zzSepByte, zzBareable, zzEncodeWord: their contracts.
-/
import Derived.Test.Qxb6600352aBase2
import Derived.Test.Qxb6600352aEncPlain
import Derived.Deep.RegionHeld3
import Derived.Deep.DrawnRows
namespace Go.Proofs.Qxb6600352a.Enc
open Go.RowKit
open Go.Proofs.Qxb6600352a.Plain Go.Proofs.Qxb6600352a.Mem Go.Proofs.Qxb6600352a.Base Go.Proofs.Qxb6600352a.Leaf
set_option linter.unusedVariables false
set_option linter.unusedSimpArgs false

theorem sepByte_any (s : Int) (w : World) :
    Calls Try.prog 18 #[.int .u8 s] w fun e w' => (∃ c, e = .returned (.int .u8 c) ∧ ends c = true) ∧ w' = w := by
  go_enter Try.func18, Try.ntmps18
  go_wp2
  all_goals (go_ret; exact ⟨⟨_, rfl, by decide⟩, rfl⟩)

theorem bare_nil (ao : Option Addr) (cap : Nat) (w : World) :
    Calls Try.prog 30 #[.slice ao 0 cap] w fun e w' => e = .returned (.bool false) ∧ w' = w := by
  go_enter Try.func30, Try.ntmps30
  go_wp2
  go_ret
  exact ⟨rfl, rfl⟩

theorem bareable_iff (x : List Int) : bareable x = true ↔ x ≠ [] ∧ ∀ j, j < x.length → isSp (x.getD j 0) = false ∧ ¬ x.getD j 0 = 34 ∧ ¬ x.getD j 0 = 39 := by
  simp only [bareable, Bool.and_eq_true, Bool.not_eq_true', List.all_eq_true]
  constructor
  · rintro ⟨h1, h2⟩
    refine ⟨by rintro rfl; simp at h1, fun j hj => ?_⟩
    have := h2 (x.getD j 0) (by simp [List.getD, hj])
    simp at this
    exact ⟨this.1.1, this.1.2, this.2⟩
  · rintro ⟨h1, h2⟩
    refine ⟨by cases x; exact absurd rfl h1; rfl, fun c hc => ?_⟩
    obtain ⟨j, hj, rfl⟩ := List.getElem_of_mem hc
    have := h2 j hj
    simp [hj] at this
    simp [this]

set_option maxHeartbeats 400000 in
theorem bare_some (b off cap n : Nat) (x : List Int) (w : World) (hn : x.length = n) (hpos : 0 < n) (hlen : n ≤ 1099511627) (hc : ∀ j, j < n → w.cell? ⟨b, off + j, none⟩ = some (.int .u8 (x.getD j 0))) :
    Calls Try.prog 30 #[.slice (some ⟨b, off, none⟩) n cap] w fun e w' => e = .returned (.bool (bareable x)) ∧ w' = w := by
  have HN : Hid (x.length = n) := hn
  have HC : Hid (∀ j, j < n → w.cell? ⟨b, off + j, none⟩ = some (.int .u8 (x.getD j 0))) := hc
  have hz : ((n : Int) == 0) = false := beq_eq_false_iff_ne.2 (by omega)
  clear hn hc
  go_enter Try.func30, Try.ntmps30
  go_wp2
  go_loop [3] (fun iv => ∃ k : Nat, k ≤ n ∧ iv = .int .i64 k ∧ ∀ j, j < k → isSp (x.getD j 0) = false ∧ ¬ x.getD j 0 = 34 ∧ ¬ x.getD j 0 = 39) (fun iv => n - (intOf iv).toNat)
  case atStart => exact ⟨0, by omega, rfl, fun j hj => by omega⟩
  case round =>
    obtain ⟨k, hk, rfl, hall⟩ := hrel
    have HA : Hid (∀ j, j < k → isSp (x.getD j 0) = false ∧ ¬ x.getD j 0 = 34 ∧ ¬ x.getD j 0 = 39) := hall
    clear hall
    by_cases hlt : k < n
    · have ec := HC.out k hlt
      obtain ⟨c, hcx⟩ : ∃ c, x.getD k 0 = c := ⟨_, rfl⟩
      rw [hcx] at ec
      have HX : Hid (x.getD k 0 = c) := hcx
      clear hcx
      by_cases hgood : isSp c = false ∧ ¬ c = 34 ∧ ¬ c = 39
      · have hs := hgood.1
        have b1 : (c == 34) = false := by simpa using hgood.2.1
        have b2 : (c == 39) = false := by simpa using hgood.2.2
        have HA2 : Hid (∀ j, j < k + 1 → isSp (x.getD j 0) = false ∧ ¬ x.getD j 0 = 34 ∧ ¬ x.getD j 0 = 39) := by
          intro j hj
          by_cases hjk : j = k
          · subst hjk; rw [HX.out]; exact hgood
          · exact HA.out j (by omega)
        clear hgood
        go_wp2_with (first | (go_at_call 29; refine (blank_any _ _).mono ?_; rintro e w' ⟨rfl, hw⟩; obtain rfl := hw.symm))
        go_round
        case rel => exact ⟨k + 1, by omega, by go_num, HA2.out⟩
        case measure => simp [intOf]; omega
      · have HB : Hid (bareable x = false) := by
          show _ = _
          cases hb : bareable x with
          | false => rfl
          | true =>
            exfalso
            apply hgood
            have := ((bareable_iff x).1 hb).2 k (by rw [HN.out]; exact hlt)
            rw [HX.out] at this
            exact this
        cases hs : isSp c with
        | true =>
          clear hgood
          go_wp2_with (first | (go_at_call 29; refine (blank_any _ _).mono ?_; rintro e w' ⟨rfl, hw⟩; obtain rfl := hw.symm))
          go_ret
          exact ⟨ret_bool HB.out.symm, rfl⟩
        | false =>
          by_cases h34 : c = 34
          · subst h34
            clear hgood
            go_wp2_with (first | (go_at_call 29; refine (blank_any _ _).mono ?_; rintro e w' ⟨rfl, hw⟩; obtain rfl := hw.symm))
            go_ret
            exact ⟨ret_bool HB.out.symm, rfl⟩
          · have h39 : c = 39 := by
              by_cases h39 : c = 39
              · exact h39
              · exact absurd ⟨hs, h34, h39⟩ hgood
            subst h39
            clear hgood h34
            go_wp2_with (first | (go_at_call 29; refine (blank_any _ _).mono ?_; rintro e w' ⟨rfl, hw⟩; obtain rfl := hw.symm))
            go_ret
            exact ⟨ret_bool HB.out.symm, rfl⟩
    · have HB : Hid (bareable x = true) := by
        show _ = _
        rw [bareable_iff]
        refine ⟨by rintro rfl; have := HN.out; simp at this; omega, fun j hj => HA.out j (by have := HN.out; omega)⟩
      go_wp2
      go_ret
      exact ⟨ret_bool HB.out.symm, rfl⟩

theorem bare_any (ao : Option Addr) (cap n : Nat) (x : List Int) (w : World) (hn : x.length = n) (hlen : n ≤ 1099511627) (hr : Rd w ao x) :
    Calls Try.prog 30 #[.slice ao n cap] w fun e w' => e = .returned (.bool (bareable x)) ∧ w' = w := by
  cases x with
  | nil => obtain rfl : n = 0 := hn.symm; exact bare_nil ao cap w
  | cons c s =>
    obtain ⟨b, off, rfl, _⟩ := hr 0 (by simp)
    exact bare_some b off cap n (c :: s) w hn (by rw [← hn]; simp) hlen (fun j hj => by obtain ⟨b', off', e, h⟩ := hr j (by omega); cases e; exact h)
end Go.Proofs.Qxb6600352a.Enc
