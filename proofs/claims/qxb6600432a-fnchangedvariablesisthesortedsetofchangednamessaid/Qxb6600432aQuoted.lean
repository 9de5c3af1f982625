/-
  (*reader).quoted computes 'qd'.
-/
import Derived.Test.Qxb6600432aBase
import Derived.Test.Qxb6600432aFacts
import Derived.Deep.RegionHeld3
namespace Go.Proofs.Qxb6600432a.Quoted
open Go.RowKit
open Go.Proofs.Qxb6600432a.Plain Go.Proofs.Qxb6600432a.Mem Go.Proofs.Qxb6600432a.Base
set_option linter.unusedVariables false
set_option linter.unusedSimpArgs false

theorem drop_cons (l : List Int) (k : Nat) (h : k < l.length) : l.drop k = l.getD k 0 :: l.drop (k + 1) := by
  rw [List.drop_eq_getElem_cons h]; simp [h]

/-- The reader's two cells. -/
structure Reads (w : World) (rb : Nat) (b : Value) (f : Bool) : Prop where
  c0 : w.cell? ⟨rb, 0, none⟩ = some b
  c1 : w.cell? ⟨rb, 1, none⟩ = some (.bool f)
  f0 : w.frozen? ⟨rb, 0, none⟩ = false
  f1 : w.frozen? ⟨rb, 1, none⟩ = false

theorem quoted_failed (rb n cap : Nat) (ba : Option Addr) (w : World) (hr : Reads w rb (.slice ba n cap) true) :
    Calls Try.prog 26 #[.pointer (some ⟨rb, 0, none⟩)] w fun e w' => e = .returned (.tuple #[.slice none 0 0, .bool false]) ∧ w' = w.setCell ⟨rb, 1, none⟩ (.bool true) := by
  obtain ⟨c0, c1, f0, f1⟩ := hr
  go_enter Try.func26, Try.ntmps26
  go_wp2
  go_ret2
  exact ⟨rfl, rfl⟩
theorem quoted_empty (rb cap : Nat) (ba : Option Addr) (w : World) (hr : Reads w rb (.slice ba 0 cap) false) :
    Calls Try.prog 26 #[.pointer (some ⟨rb, 0, none⟩)] w fun e w' => e = .returned (.tuple #[.slice none 0 0, .bool false]) ∧ w' = w.setCell ⟨rb, 1, none⟩ (.bool true) := by
  obtain ⟨c0, c1, f0, f1⟩ := hr
  go_enter Try.func26, Try.ntmps26
  go_wp2
  go_ret2
  exact ⟨rfl, rfl⟩
theorem quoted_none (rb n cap b off : Nat) (c : Int) (w : World) (hr : Reads w rb (.slice (some ⟨b, off, none⟩) n cap) false) (hn : 0 < n) (hc : w.cell? ⟨b, off, none⟩ = some (.int .u8 c)) (h34 : ¬ c = 34) :
    Calls Try.prog 26 #[.pointer (some ⟨rb, 0, none⟩)] w fun e w' => e = .returned (.tuple #[.slice none 0 0, .bool false]) ∧ w' = w.setCell ⟨rb, 1, none⟩ (.bool true) := by
  obtain ⟨c0, c1, f0, f1⟩ := hr
  have hb : (c != 34) = true := by simpa using h34
  have hz : ((n : Int) == 0) = false := by simp; omega
  go_enter Try.func26, Try.ntmps26
  go_wp2
  go_ret2
  exact ⟨rfl, rfl⟩

/-- The value that the reader keeps. -/
def restV (b off n cap i : Nat) : Value := .slice (if cap = i + 1 then some ⟨b, off, none⟩ else some ⟨b, off + (i + 1), none⟩) (n - (i + 1)) (cap - (i + 1))
theorem rest_eq1 (b off n k : Nat) : restV b off n (k + 1) k = .slice (some ⟨b, off, none⟩) (n - (k + 1)) 0 := by simp [restV]
theorem rest_eq2 (b off n cap k : Nat) (h : ¬ cap = k + 1) : restV b off n cap k = .slice (some ⟨b, off + (k + 1), none⟩) (n - (k + 1)) (cap - (k + 1)) := by simp [restV, h]
def Ans (w : World) (rb b off n cap : Nat) (R : Option (Nat × Bool)) (e : Ending) (w' : World) : Prop := match R with
  | none => e = .returned (.tuple #[.slice none 0 0, .bool false]) ∧ w' = w.setCell ⟨rb, 1, none⟩ (.bool true)
  | some (i, p) => i < n ∧ e = .returned (.tuple #[.slice (some ⟨b, off, none⟩) (i + 1) cap, .bool p]) ∧ ∃ m, w' = (w.setCell ⟨rb, 0, none⟩ (restV b off n cap i)).drewN m

set_option maxHeartbeats 1000000 in
theorem quoted_some (rb n cap b off : Nat) (l : List Int) (w : World) (R : Option (Nat × Bool)) (hr : Reads w rb (.slice (some ⟨b, off, none⟩) n cap) false) (hn : l.length = n) (hcap : n ≤ cap) (hlen : n ≤ 1099511627) (hpos : 0 < n)
    (hl : ∀ j, j < n → w.cell? ⟨b, off + j, none⟩ = some (.int .u8 (l.getD j 0))) (h34 : l.getD 0 0 = 34) (hR : qd (l.drop 1) 1 true = R) (hcl : cap ≤ maxLen) :
    Calls Try.prog 26 #[.pointer (some ⟨rb, 0, none⟩)] w (Ans w rb b off n cap R) := by
  obtain ⟨c0, c1, f0, f1⟩ := hr
  unfold maxLen at hcl
  have ec0 := hl 0 hpos
  rw [h34, Nat.add_zero] at ec0
  have hz : ((n : Int) == 0) = false := by simp; omega
  have HL : Hid (∀ j, j < n → w.cell? ⟨b, off + j, none⟩ = some (.int .u8 (l.getD j 0))) := hl
  have HN : Hid (l.length = n) := hn
  have HR : Hid (qd (l.drop 1) 1 true = R) := hR
  clear hl hn hR h34
  go_enter Try.func26, Try.ntmps26
  go_wp2
  go_loop [3, 4] (fun pv iv => ∃ (k : Nat) (p : Bool), 1 ≤ k ∧ k ≤ n + 1 ∧ pv = .bool p ∧ iv = .int .i64 k ∧ qd (l.drop k) k p = R) (fun _ iv => n + 1 - (intOf iv).toNat)
  case atStart => exact ⟨1, true, by omega, by omega, rfl, rfl, HR.out⟩
  case round =>
    obtain ⟨k, p, hk1, hkn, rfl, rfl, hE⟩ := hrel
    have HE : Hid (qd (l.drop k) k p = R) := hE
    clear hE HR
    by_cases hlt : k < n
    · have ec := HL.out k hlt
      obtain ⟨c, hc⟩ : ∃ c, l.getD k 0 = c := ⟨_, rfl⟩
      rw [hc] at ec
      have HD : Hid (l.drop k = c :: l.drop (k + 1)) := by show _ = _; rw [← hc]; exact drop_cons l k (by rw [HN.out]; exact hlt)
      clear hc
      by_cases h34 : c = 34
      · subst h34
        have HR2 : Hid (R = some (k, p)) := by show _ = _; rw [← HE.out, HD.out, qd_q]
        have hi1 : (k : Int) + 1 ≤ (cap : Int) := by omega
        have hi2 : (k : Int) + 1 ≤ (n : Int) := by omega
        go_wp2
        go_region
        all_goals go_wp2
        all_goals
          go_ret2
          rw [HR2.out]
          first | exact ⟨hlt, rfl, 1, by rw [rest_eq1]; rfl⟩ | exact ⟨hlt, rfl, 1, by rw [rest_eq2 _ _ _ _ _ (by assumption)]; rfl⟩
      · have b1 : (c == 34) = false := by simpa using h34
        by_cases h92 : c = 92
        · subst h92
          have HE2 : Hid (qd (l.drop (k + 2)) (k + 2) false = R) := by show _ = _; rw [← HE.out, HD.out, qd_bs, List.drop_drop]
          go_wp2
          go_round
          case rel => exact ⟨k + 2, false, by omega, by omega, rfl, by go_num, HE2.out⟩
          case measure => simp [intOf]; omega
        · have b2 : (c == 92) = false := by simpa using h92
          have HE2 : Hid (qd (l.drop (k + 1)) (k + 1) (p && prin c) = R) := by show _ = _; rw [← HE.out, HD.out, qd_c _ _ _ _ h34 h92]
          by_cases h32 : c < 32
          · go_wp2
            go_round
            case rel => exact ⟨k + 1, false, by omega, by omega, rfl, by go_num, by rw [← HE2.out]; congr 1; simp [prin]; omega⟩
            case measure => simp [intOf]; omega
          · by_cases h126 : 126 < c
            · go_wp2
              go_round
              case rel => exact ⟨k + 1, false, by omega, by omega, rfl, by go_num, by rw [← HE2.out]; congr 1; simp [prin]; omega⟩
              case measure => simp [intOf]; omega
            · go_wp2
              go_round
              case rel => exact ⟨k + 1, p, by omega, by omega, rfl, by go_num, by rw [← HE2.out]; congr 1; have : prin c = true := by simp [prin]; omega
                                                                                  simp [this]⟩
              case measure => simp [intOf]; omega
    · have HR2 : Hid (R = none) := by show _ = _; rw [← HE.out, List.drop_eq_nil_of_le (by rw [HN.out]; omega), qd]
      go_wp2
      go_ret2
      rw [HR2.out]
      exact ⟨rfl, rfl⟩

/-- What ZZQuoted answers. -/
def AnsZ (w : World) (ba : Option Addr) (cap : Nat) (l : List Int) (R : Option (Nat × Bool)) (e : Ending) (w' : World) : Prop := w.grownBy w' none ∧ match R with
  | none => e = .returned (.tuple #[.slice none 0 0, .bool false, .slice ba l.length cap, .bool true])
  | some (i, p) => i < l.length ∧ ∃ ra rc, e = .returned (.tuple #[.slice ba (i + 1) cap, .bool p, .slice ra (l.length - (i + 1)) rc, .bool false]) ∧ Rd w' ra (l.drop (i + 1))

theorem grown_set (w : World) (o : Obj) (j : Nat) (v : Value) (m : Nat) : w.grownBy (((w.alloc o).setCell ⟨w.heap.size, j, none⟩ v).drewN m) none :=
  ⟨rfl, rfl, rfl, by simp [World.setCell, World.drewN], fun k hk _ => by
    show ((w.alloc o).setCell ⟨w.heap.size, j, none⟩ v).heap[k]? = _
    rw [Below.heap_setCell _ _ _ _ (by simp; omega)]
    exact Below.heap_alloc w o k hk⟩

theorem results_tmp4 {fn : Func} {t u v x : Tmp} (h : fn.results = #[.tmp t, .tmp u, .tmp v, .tmp x]) (tmps : Array Value) (P : Program) (w : World) :
    (results fn tmps).run P w = .ok (.tuple #[tmps.getD t undef, tmps.getD u undef, tmps.getD v undef, tmps.getD x undef]) w := by
  simp [results, h]

/-- What the method leaves: the two results, the reader's two cells. -/
def AnsR (b : Option Addr) (cap : Nat) (l : List Int) (R : Option (Nat × Bool)) (q : Value) (p : Bool) (x0 : Value) (fb : Bool) : Prop := match R with
  | none => q = .slice none 0 0 ∧ p = false ∧ x0 = .slice b l.length cap ∧ fb = true
  | some (i, p') => q = .slice b (i + 1) cap ∧ p = p' ∧ fb = false ∧ i < l.length ∧ ∃ ra rc, x0 = .slice ra (l.length - (i + 1)) rc ∧ (i + 1 < l.length → ∃ bb off, b = some ⟨bb, off, none⟩ ∧ ra = some ⟨bb, off + (i + 1), none⟩)

theorem addr_ne (b i j : Nat) (h : i ≠ j) : (⟨b, i, none⟩ : Addr) ≠ ⟨b, j, none⟩ := by
  intro e; cases e; exact h rfl

/-- The method's four ways, in one contract: the world behind it told by the reader's cells. -/
theorem quoted_all (rb cap : Nat) (ba : Option Addr) (l : List Int) (f : Bool) (w : World) (hr : Reads w rb (.slice ba l.length cap) f) (hrd : Rd w ba l) (hcap : l.length ≤ cap) (hcl : cap ≤ maxLen) (hlen : l.length ≤ 1099511627) :
    Calls Try.prog 26 #[.pointer (some ⟨rb, 0, none⟩)] w fun e w' => ∃ q p x0 fb, e = .returned (.tuple #[q, .bool p]) ∧ AnsR ba cap l (qz l f) q p x0 fb ∧ w'.cell? ⟨rb, 0, none⟩ = some x0 ∧ w'.cell? ⟨rb, 1, none⟩ = some (.bool fb) ∧ w.grownBy w' (some rb) := by
  have hg : ∀ (j : Nat) (v : Value) (m : Nat), w.grownBy ((w.setCell ⟨rb, j, none⟩ v).drewN m) (some rb) := fun j v m =>
    ⟨rfl, rfl, rfl, by simp [World.setCell, World.drewN], fun k hk hne => Below.heap_setCell _ _ _ _ (by simp at hne; exact hne)⟩
  have hfail : ∀ e w', (e = Ending.returned (.tuple #[.slice none 0 0, .bool false]) ∧ w' = w.setCell ⟨rb, 1, none⟩ (.bool true)) → qz l f = none →
      ∃ q p x0 fb, e = .returned (.tuple #[q, .bool p]) ∧ AnsR ba cap l (qz l f) q p x0 fb ∧ w'.cell? ⟨rb, 0, none⟩ = some x0 ∧ w'.cell? ⟨rb, 1, none⟩ = some (.bool fb) ∧ w.grownBy w' (some rb) := by
    rintro e w' ⟨rfl, rfl⟩ hq
    rw [hq]
    exact ⟨_, _, _, _, rfl, ⟨rfl, rfl, rfl, rfl⟩, by rw [World.cell?_setCell_other _ _ _ _ (addr_ne rb 1 0 (by decide))]; exact hr.c0, World.cell?_setCell_same _ _ _ hr.c1, hg 1 _ 0⟩
  cases f with
  | true => exact (quoted_failed rb l.length cap ba w hr).mono fun e w' h => hfail e w' h rfl
  | false =>
    cases l with
    | nil => exact (quoted_empty rb cap ba w hr).mono fun e w' h => hfail e w' h rfl
    | cons c s =>
      obtain ⟨b, off, rfl, hc0⟩ := hrd 0 (by simp)
      have hl : ∀ j, j < (c :: s).length → w.cell? ⟨b, off + j, none⟩ = some (.int .u8 ((c :: s).getD j 0)) := by
        intro j hj
        obtain ⟨b', off', e, h⟩ := hrd j hj
        cases e
        exact h
      by_cases h34 : c = 34
      · subst h34
        have hq : qz (34 :: s) false = qd s 1 true := by simp [qz]
        rw [hq]
        refine (quoted_some rb _ cap b off (34 :: s) w (qd s 1 true) hr rfl hcap hlen (by simp) hl rfl rfl hcl).mono ?_
        intro e w' h
        cases hR : qd s 1 true with
        | none =>
          rw [hR] at h
          have h2 := hfail e w' h (by rw [hq]; exact hR)
          rw [hq, hR] at h2
          exact h2
        | some ip =>
          obtain ⟨i, p⟩ := ip
          rw [hR] at h
          obtain ⟨hi, rfl, m, rfl⟩ := h
          refine ⟨_, _, restV b off (34 :: s).length cap i, false, rfl, ⟨rfl, rfl, rfl, hi, _, _, rfl, ?_⟩, ?_, ?_, hg 0 _ m⟩
          · intro hlt
            refine ⟨b, off, rfl, ?_⟩
            rw [if_neg (by omega)]
          · exact World.cell?_setCell_same _ _ _ hr.c0
          · show (w.setCell ⟨rb, 0, none⟩ _).cell? ⟨rb, 1, none⟩ = _
            rw [World.cell?_setCell_other _ _ _ _ (addr_ne rb 0 1 (by decide))]
            exact hr.c1
      · have hc1 : w.cell? ⟨b, off, none⟩ = some (.int .u8 c) := hc0
        exact (quoted_none rb _ cap b off c w hr (by simp) hc1 h34).mono fun e w' h => hfail e w' h (by simp [qz, h34])

set_option maxHeartbeats 400000 in
theorem zzQuoted_any (ba : Option Addr) (n cap : Nat) (l : List Int) (f : Bool) (w : World) (hn : n = l.length) (hrd : Rd w ba l) (hcap : l.length ≤ cap) (hcl : cap ≤ maxLen) (hlen : l.length ≤ 1099511627) :
    Calls Try.prog 13 #[.slice ba n cap, .bool f] w (AnsZ w ba cap l (qz l f)) := by
  subst hn
  have hrd1 : ∀ o, Rd (w.alloc o) ba l := by
    intro o j hj
    obtain ⟨b, off, e, hc⟩ := hrd j hj
    exact ⟨b, off, e, (World.grownBy_alloc w o none).cell hc (by simp)⟩
  have C : Hid (Calls Try.prog 26 #[.pointer (some ⟨w.heap.size, 0, none⟩)] (w.alloc (.cells #[.slice ba l.length cap, .bool f] 47)) fun e w' => ∃ q p x0 fb, e = .returned (.tuple #[q, .bool p]) ∧ AnsR ba cap l (qz l f) q p x0 fb ∧ w'.cell? ⟨w.heap.size, 0, none⟩ = some x0 ∧ w'.cell? ⟨w.heap.size, 1, none⟩ = some (.bool fb) ∧ (w.alloc (.cells #[.slice ba l.length cap, .bool f] 47)).grownBy w' (some w.heap.size)) :=
    quoted_all w.heap.size cap ba l f _ ⟨by simp, by simp, by simp, by simp⟩ (hrd1 _) hcap hcl hlen
  go_enter Try.func13, Try.ntmps13
  go_wp2_with fail
  refine C.out.mono ?_
  rintro e w2 ⟨q, p, x0, fb, rfl, hans, h0, h1, hg⟩
  have HA : Hid (AnsR ba cap l (qz l f) q p x0 fb) := hans
  have HG : Hid (w.grownBy w2 none) := ⟨hg.os, hg.tape, hg.output, Nat.le_trans (by simp) hg.size, fun k hk _ => (hg.block k (by simp; omega) (by simp; omega)).trans (Below.heap_alloc w _ k hk)⟩
  clear hans hg C hrd1
  go_wp2
  go_quiet (fail)
  go_wp2
  (try simp only [Exit.inBlock, Exit.then])
  refine bodyPost_ret (results_tmp4 rfl _ _ _) rfl ?_
  refine ⟨⟨HG.out.os, HG.out.tape, HG.out.output, HG.out.size, HG.out.block⟩, ?_⟩
  have ha := HA.out
  cases hR : qz l f with
  | none =>
    rw [hR] at ha
    obtain ⟨rfl, rfl, rfl, rfl⟩ := ha
    rfl
  | some ip =>
    obtain ⟨i, p'⟩ := ip
    rw [hR] at ha
    obtain ⟨rfl, rfl, rfl, hi, ra, rc, rfl, hra⟩ := ha
    refine ⟨hi, ra, rc, rfl, ?_⟩
    intro j hj
    have hj2 : i + 1 + j < l.length := by simp at hj; omega
    obtain ⟨bb, off, rfl, rfl⟩ := hra (by omega)
    obtain ⟨b2, off2, e, hc⟩ := hrd (i + 1 + j) hj2
    cases e
    refine ⟨_, _, rfl, ?_⟩
    have hc2 := HG.out.cell hc (by simp)
    show w2.cell? _ = _
    rw [Nat.add_assoc, hc2]
    simp [List.getD]
end Go.Proofs.Qxb6600432a.Quoted
