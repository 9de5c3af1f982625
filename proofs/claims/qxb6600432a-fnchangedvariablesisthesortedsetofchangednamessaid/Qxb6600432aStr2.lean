/-
  zzBytes of the law on changed variables: it answers some bool and turns nothing.
-/
import Derived.Test.Qxb6600432aStr
namespace Go.Proofs.Qxb6600432a.Str
open Go.RowKit
set_option linter.unusedVariables false
set_option linter.unusedSimpArgs false

def AnyBool (e : Ending) : Prop := ∃ b, e = .returned (.bool b)
set_option maxHeartbeats 1000000 in
set_option maxRecDepth 100000 in
theorem zzBytes_any (a0 a1 a2 a3 : Option Addr) (n0 c0 n1 c1 n2 c2 n3 c3 : Nat) (s0 s1 s2 s3 : List (List UInt8)) (w : World)
    (hn0 : s0.length = n0) (hr0 : RdS w a0 s0) (hb0 : n0 ≤ 9223372036854775807) (hl0 : ∀ x ∈ s0, x.length ≤ maxLen)
    (hn1 : s1.length = n1) (hr1 : RdS w a1 s1) (hb1 : n1 ≤ 9223372036854775807) (hl1 : ∀ x ∈ s1, x.length ≤ maxLen)
    (hn2 : s2.length = n2) (hr2 : RdS w a2 s2) (hb2 : n2 ≤ 9223372036854775807) (hl2 : ∀ x ∈ s2, x.length ≤ maxLen)
    (hn3 : s3.length = n3) (hr3 : RdS w a3 s3) (hb3 : n3 ≤ 9223372036854775807) (hl3 : ∀ x ∈ s3, x.length ≤ maxLen) :
    Calls Try.prog 17 #[.slice a0 n0 c0, .slice a1 n1 c1, .slice a2 n2 c2, .slice a3 n3 c3] w fun e w' => AnyBool e ∧ w' = w := by
  have HR0 : Hid (RdS w a0 s0) := hr0
  have HN0 : Hid (s0.length = n0) := hn0
  have HL0 : Hid (∀ x ∈ s0, x.length ≤ maxLen) := hl0
  clear hr0 hn0 hl0
  have HR1 : Hid (RdS w a1 s1) := hr1
  have HN1 : Hid (s1.length = n1) := hn1
  have HL1 : Hid (∀ x ∈ s1, x.length ≤ maxLen) := hl1
  clear hr1 hn1 hl1
  have HR2 : Hid (RdS w a2 s2) := hr2
  have HN2 : Hid (s2.length = n2) := hn2
  have HL2 : Hid (∀ x ∈ s2, x.length ≤ maxLen) := hl2
  clear hr2 hn2 hl2
  have HR3 : Hid (RdS w a3 s3) := hr3
  have HN3 : Hid (s3.length = n3) := hn3
  have HL3 : Hid (∀ x ∈ s3, x.length ≤ maxLen) := hl3
  clear hr3 hn3 hl3
  go_enter Try.func17, Try.ntmps17
  by_cases g0 : 1048576 < n0
  · go_wp2; go_ret; exact ⟨⟨_, rfl⟩, rfl⟩
  go_wp2
  go_loop [9, 10] (fun nv iv => ∃ k m : Nat, k ≤ n0 ∧ m ≤ 1048576 ∧ nv = .int .i64 m ∧ iv = .int .i64 k) (fun nv iv => n0 - (intOf iv).toNat)
  case atStart => exact ⟨0, n0, by omega, by omega, by go_num, rfl⟩
  case round =>
    obtain ⟨k0, m0, hk0, hm0, rfl, rfl⟩ := hrel
    by_cases hlt : k0 < n0
    · obtain ⟨b, off, rfl, hc⟩ := HR0.out k0 (by rw [HN0.out]; exact hlt)
      have hs : (str (s0.getD k0 [])).size ≤ 9223372036854775807 := by rw [str_size]; exact HL0.out _ (getD_mem _ _ _ (by rw [HN0.out]; exact hlt))
      generalize str (s0.getD k0 []) = s at *
      by_cases h1 : 1048576 < s.size
      · go_wp2; go_ret; exact ⟨⟨_, rfl⟩, rfl⟩
      · by_cases h2 : 1048576 < m0 + s.size
        · go_wp2; go_ret; exact ⟨⟨_, rfl⟩, rfl⟩
        · go_wp2
          go_round
          case rel => exact ⟨k0 + 1, m0 + s.size, by omega, by omega, by go_num, by go_num⟩
          case measure => simp [intOf]; omega
    · have hge : ¬ k0 < n0 := hlt
      by_cases g1 : 1048576 < n1
      · go_wp2; go_ret; exact ⟨⟨_, rfl⟩, rfl⟩
      by_cases t1 : 1048576 < m0 + n1
      · go_wp2; go_ret; exact ⟨⟨_, rfl⟩, rfl⟩
      go_wp2
      go_loop [9, 11] (fun nv iv => ∃ k m : Nat, k ≤ n1 ∧ m ≤ 1048576 ∧ nv = .int .i64 m ∧ iv = .int .i64 k) (fun nv iv => n1 - (intOf iv).toNat)
      case atStart => exact ⟨0, m0 + n1, by omega, by omega, by go_num, rfl⟩
      case round =>
        obtain ⟨k1, m1, hk1, hm1, rfl, rfl⟩ := hrel
        by_cases hlt : k1 < n1
        · obtain ⟨b, off, rfl, hc⟩ := HR1.out k1 (by rw [HN1.out]; exact hlt)
          have hs : (str (s1.getD k1 [])).size ≤ 9223372036854775807 := by rw [str_size]; exact HL1.out _ (getD_mem _ _ _ (by rw [HN1.out]; exact hlt))
          generalize str (s1.getD k1 []) = s at *
          by_cases h1 : 1048576 < s.size
          · go_wp2; go_ret; exact ⟨⟨_, rfl⟩, rfl⟩
          · by_cases h2 : 1048576 < m1 + s.size
            · go_wp2; go_ret; exact ⟨⟨_, rfl⟩, rfl⟩
            · go_wp2
              go_round
              case rel => exact ⟨k1 + 1, m1 + s.size, by omega, by omega, by go_num, by go_num⟩
              case measure => simp [intOf]; omega
        · have hge : ¬ k1 < n1 := hlt
          by_cases g2 : 1048576 < n2
          · go_wp2; go_ret; exact ⟨⟨_, rfl⟩, rfl⟩
          by_cases t2 : 1048576 < m1 + n2
          · go_wp2; go_ret; exact ⟨⟨_, rfl⟩, rfl⟩
          go_wp2
          go_loop [9, 12] (fun nv iv => ∃ k m : Nat, k ≤ n2 ∧ m ≤ 1048576 ∧ nv = .int .i64 m ∧ iv = .int .i64 k) (fun nv iv => n2 - (intOf iv).toNat)
          case atStart => exact ⟨0, m1 + n2, by omega, by omega, by go_num, rfl⟩
          case round =>
            obtain ⟨k2, m2, hk2, hm2, rfl, rfl⟩ := hrel
            by_cases hlt : k2 < n2
            · obtain ⟨b, off, rfl, hc⟩ := HR2.out k2 (by rw [HN2.out]; exact hlt)
              have hs : (str (s2.getD k2 [])).size ≤ 9223372036854775807 := by rw [str_size]; exact HL2.out _ (getD_mem _ _ _ (by rw [HN2.out]; exact hlt))
              generalize str (s2.getD k2 []) = s at *
              by_cases h1 : 1048576 < s.size
              · go_wp2; go_ret; exact ⟨⟨_, rfl⟩, rfl⟩
              · by_cases h2 : 1048576 < m2 + s.size
                · go_wp2; go_ret; exact ⟨⟨_, rfl⟩, rfl⟩
                · go_wp2
                  go_round
                  case rel => exact ⟨k2 + 1, m2 + s.size, by omega, by omega, by go_num, by go_num⟩
                  case measure => simp [intOf]; omega
            · have hge : ¬ k2 < n2 := hlt
              by_cases g3 : 1048576 < n3
              · go_wp2; go_ret; exact ⟨⟨_, rfl⟩, rfl⟩
              by_cases t3 : 1048576 < m2 + n3
              · go_wp2; go_ret; exact ⟨⟨_, rfl⟩, rfl⟩
              go_wp2
              go_loop [9, 13] (fun nv iv => ∃ k m : Nat, k ≤ n3 ∧ m ≤ 1048576 ∧ nv = .int .i64 m ∧ iv = .int .i64 k) (fun nv iv => n3 - (intOf iv).toNat)
              case atStart => exact ⟨0, m2 + n3, by omega, by omega, by go_num, rfl⟩
              case round =>
                obtain ⟨k3, m3, hk3, hm3, rfl, rfl⟩ := hrel
                by_cases hlt : k3 < n3
                · obtain ⟨b, off, rfl, hc⟩ := HR3.out k3 (by rw [HN3.out]; exact hlt)
                  have hs : (str (s3.getD k3 [])).size ≤ 9223372036854775807 := by rw [str_size]; exact HL3.out _ (getD_mem _ _ _ (by rw [HN3.out]; exact hlt))
                  generalize str (s3.getD k3 []) = s at *
                  by_cases h1 : 1048576 < s.size
                  · go_wp2; go_ret; exact ⟨⟨_, rfl⟩, rfl⟩
                  · by_cases h2 : 1048576 < m3 + s.size
                    · go_wp2; go_ret; exact ⟨⟨_, rfl⟩, rfl⟩
                    · go_wp2
                      go_round
                      case rel => exact ⟨k3 + 1, m3 + s.size, by omega, by omega, by go_num, by go_num⟩
                      case measure => simp [intOf]; omega
                · go_wp2; go_ret; exact ⟨⟨_, rfl⟩, rfl⟩
end Go.Proofs.Qxb6600432a.Str
