/-
  zzCloneAll: its contract.
-/
import Derived.Test.Qxb6600352aSplit
namespace Go.Proofs.Qxb6600352a.Split
open Go.RowKit
open Go.Proofs.Qxb6600352a.Plain Go.Proofs.Qxb6600352a.Mem Go.Proofs.Qxb6600352a.Base Go.Proofs.Qxb6600352a.Leaf
set_option linter.unusedVariables false
set_option linter.unusedSimpArgs false

/-- What is told of a slice of byte slices that came in. -/
def RdA (w : World) (ao : Option Addr) (ws : List (List Int)) : Prop :=
  ∀ k, k < ws.length → ∃ b off a c, ao = some ⟨b, off, none⟩ ∧ w.cell? ⟨b, off + k, none⟩ = some (.slice a (ws.getD k []).length c) ∧ Rd w a (ws.getD k []) ∧ (a = none → c = 0)

theorem RdA.grown {w w' : World} {ao : Option Addr} {ws : List (List Int)} (h : RdA w ao ws) (g : w.grownBy w' none) : RdA w' ao ws := by
  intro k hk
  obtain ⟨b, off, a, c, e, h1, h2, h3⟩ := h k hk
  refine ⟨b, off, a, c, e, g.cell h1 (by simp), ?_, h3⟩
  intro j hj
  obtain ⟨b2, off2, e2, h4⟩ := h2 j hj
  exact ⟨b2, off2, e2, g.cell h4 (by simp)⟩

/-- The first k cells lead to the first k words, which lie outside block B. -/
def Upto (w : World) (B : Nat) (xs : List Value) (ws : List (List Int)) (k : Nat) : Prop :=
  ∀ j, j < k → ∃ ao c, xs[j]? = some (.slice ao (ws.getD j []).length c) ∧ ∀ i, i < (ws.getD j []).length → ∃ b off, ao = some ⟨b, off, none⟩ ∧ b < w.heap.size ∧ b ≠ B ∧ w.cell? ⟨b, off + i, none⟩ = some (.int .u8 ((ws.getD j []).getD i 0))

theorem Upto.grown {w w' : World} {B k : Nat} {xs : List Value} {ws : List (List Int)} (h : Upto w B xs ws k) (g : w.grownBy w' none) : Upto w' B xs ws k := by
  intro j hj
  obtain ⟨ao, c, e, hi⟩ := h j hj
  refine ⟨ao, c, e, fun i hii => ?_⟩
  obtain ⟨b, off, e2, h1, h2, h3⟩ := hi i hii
  exact ⟨b, off, e2, Nat.lt_of_lt_of_le h1 g.size, h2, g.cell h3 (by simp)⟩

theorem ownV_store {w : World} {base g n cap : Nat} {xs : List Value} (h : OwnV w base (.slice (some ⟨g, 0, none⟩) n cap) xs) (k : Nat) (u : Value) :
    OwnV (w.setCell ⟨g, k, none⟩ u) base (.slice (some ⟨g, 0, none⟩) n cap) (xs.set k u) ∧ w.grownBy (w.setCell ⟨g, k, none⟩ u) (some g) := by
  have hn : n = xs.length := by
    rcases h.form with ⟨e, _⟩ | ⟨_, _, e, _⟩
    · cases e
    · cases e; rfl
  subst hn
  obtain ⟨h1, h2⟩ := World.ownsRow.stored h k u
  refine ⟨?_, h2⟩
  unfold OwnV
  rw [List.length_set]
  exact h1
theorem ownV_frozen {w : World} {base g n cap : Nat} {xs : List Value} (h : OwnV w base (.slice (some ⟨g, 0, none⟩) n cap) xs) (k : Nat) : w.frozen? ⟨g, k, none⟩ = false := by
  have hn : n = xs.length := by
    rcases h.form with ⟨e, _⟩ | ⟨_, _, e, _⟩
    · cases e
    · cases e; rfl
  subst hn
  exact World.ownsRow.frozenAt h k

theorem cloneAll_nil (w : World) :
    Calls Try.prog 16 #[.slice none 0 0] w fun e w' => e = .returned (.slice none 0 0) ∧ w' = w := by
  have hn := fun (w : World) (a : Option Addr) (n c n2 c2 : Nat) => Lib.run_eql_slice_nil (P := Try.prog) w _ _ a n c n2 c2 Try.underlying25
  go_enter Try.func16, Try.ntmps16
  go_wp2
  go_ret
  exact ⟨rfl, rfl⟩

set_option maxHeartbeats 1000000 in
theorem cloneAll_some (x : Addr) (cap n : Nat) (ws : List (List Int)) (w : World) (hn : ws.length = n) (hrd : RdA w (some x) ws) (hlen : n ≤ 1099511627) (hwl : ∀ y ∈ ws, y.length ≤ 1099511627) :
    Calls Try.prog 16 #[.slice (some x) n cap] w fun e w' => ∃ a c, e = .returned (.slice a n c) ∧ RdW w' a ws ∧ w.grownBy w' none := by
  have heq := fun (w : World) (a : Option Addr) (n c n2 c2 : Nat) => Lib.run_eql_slice_nil (P := Try.prog) w _ _ a n c n2 c2 Try.underlying25
  obtain ⟨i0, hi, hz0, hz1, hz2⟩ := info_parts info22
  have HN : Hid (ws.length = n) := hn
  have HRD : Hid (RdA w (some x) ws) := hrd
  have HWL : Hid (∀ y ∈ ws, y.length ≤ 1099511627) := hwl
  clear hn hrd hwl
  go_enter Try.func16, Try.ntmps16
  go_wp2_with (first | (at_make; refine wpList_make_full _ rfl _ _ 25 rfl w.heap.size 22 i0 (.slice none 0 0) 1 Try.underlying25 hi hz0 hz1 _ _ _ _ n rfl rfl rfl rfl (by rw [hz2]; omega) (by unfold maxLen; omega) (Nat.le_refl _) ?_))
  intro w1 hown1 hgrow1
  have ho : OwnV w1 w.heap.size (.slice (some ⟨w.heap.size, 0, none⟩) n n) (List.replicate n (.slice none 0 0)) := by
    unfold OwnV
    rw [List.length_replicate]
    have e : List.replicate n (Value.slice none 0 0) = (madeCells #[Value.slice none 0 0] n).toList := by
      rw [toList_madeCells_one]
    rw [e]
    exact hown1
  have HO : Hid (OwnV w1 w.heap.size (.slice (some ⟨w.heap.size, 0, none⟩) n n) (List.replicate n (.slice none 0 0))) := ho
  have HG1 : Hid (w.grownBy w1 none) := hgrow1
  clear hown1 ho hgrow1 hi hz0 hz1 hz2
  go_wp2
  go_loopw [4] (fun iv wr => ∃ (k : Nat) (xs : List Value), k ≤ n ∧ iv = .int .i64 k ∧ xs.length = n ∧ OwnV wr w.heap.size (.slice (some ⟨w.heap.size, 0, none⟩) n n) xs ∧ Upto wr w.heap.size xs ws k ∧ w.grownBy wr none) (fun iv _ => n - (intOf iv).toNat)
  case atStart => exact ⟨0, _, by omega, rfl, by simp, HO.out, fun j hj => by omega, HG1.out⟩
  case round =>
    obtain ⟨k, xs, hk, rfl, hxl, hown, hup, hgr⟩ := hrel
    have HXL : Hid (xs.length = n) := hxl
    have HOW : Hid (OwnV wr w.heap.size (.slice (some ⟨w.heap.size, 0, none⟩) n n) xs) := hown
    have HUP : Hid (Upto wr w.heap.size xs ws k) := hup
    have HG : Hid (w.grownBy wr none) := hgr
    have hsz : w.heap.size < wr.heap.size := (hown.lt w.heap.size rfl).2
    clear hxl hown hup hgr HO HG1
    by_cases hlt : k < n
    · obtain ⟨b, off, a, c, e, g1, g2, g3⟩ := (HRD.out.grown HG.out) k (by rw [HN.out]; exact hlt)
      cases e
      have hyl : (ws.getD k []).length ≤ 1099511627 := HWL.out _ (by simp [List.getD, show k < ws.length by rw [HN.out]; exact hlt])
      obtain ⟨y, hy⟩ : ∃ y, ws.getD k [] = y := ⟨_, rfl⟩
      rw [hy] at g1 g2 hyl
      have HY : Hid (ws.getD k [] = y) := hy
      have G2 : Hid (Rd wr a y) := g2
      have G3 : Hid (a = none → c = 0) := g3
      have hki : (k : Int) < (n : Int) := by omega
      clear hy g2 g3
      go_wp2_with fail
      refine (clone_any a c y wr G2.out G3.out (by omega)).mono ?_
      rintro e w2 ⟨v, rfl, ho2, hg2⟩
      have HO2 : Hid (OwnV w2 w.heap.size (.slice (some ⟨w.heap.size, 0, none⟩) n n) xs) := HOW.out.kept hg2 (by simp [Value.ownBlock])
      have HU2 : Hid (Upto w2 w.heap.size xs ws k) := HUP.out.grown hg2
      have HG2 : Hid (w.grownBy w2 none) := ⟨hg2.os.trans HG.out.os, hg2.tape.trans HG.out.tape, hg2.output.trans HG.out.output, Nat.le_trans HG.out.size hg2.size, fun j hj _ => (hg2.block j (by have := HG.out.size; omega) (by simp)).trans (HG.out.block j hj (by simp))⟩
      have HV : Hid (Own w2 wr.heap.size v y) := ho2
      obtain ⟨va, vc, rfl⟩ : ∃ va vc, v = .slice va y.length vc := by
        rcases ho2.form with ⟨rfl, rfl⟩ | ⟨g, cp, rfl, _⟩
        · exact ⟨_, _, rfl⟩
        · exact ⟨_, _, rfl⟩
      have hfr : w2.frozen? ⟨w.heap.size, k, none⟩ = false := ownV_frozen HO2.out k
      obtain ⟨old, hold⟩ : ∃ old, w2.cell? ⟨w.heap.size, k, none⟩ = some old := by
        rw [HO2.out.cell k (by rw [HXL.out]; exact hlt), List.getElem?_eq_getElem (by rw [HXL.out]; exact hlt)]
        exact ⟨_, rfl⟩
      have hs2 : wr.heap.size ≤ w2.heap.size := hg2.size
      clear ho2 hg2 g1
      obtain ⟨s1, s2⟩ := ownV_store HO2.out k (.slice va y.length vc)
      have HS1 : Hid (OwnV (w2.setCell ⟨w.heap.size, k, none⟩ (.slice va y.length vc)) w.heap.size (.slice (some ⟨w.heap.size, 0, none⟩) n n) (xs.set k (.slice va y.length vc))) := s1
      have HS2 : Hid (w2.grownBy (w2.setCell ⟨w.heap.size, k, none⟩ (.slice va y.length vc)) (some w.heap.size)) := s2
      clear s1 s2
      go_wp2
      go_roundw
      case rel =>
        refine ⟨k + 1, _, by omega, by go_num, by rw [List.length_set]; exact HXL.out, HS1.out, ?_, ?_⟩
        · intro j hj
          have hs2' := HS2.out
          by_cases hjk : j = k
          · subst hjk
            refine ⟨va, vc, ?_, ?_⟩
            · rw [HY.out, List.getElem?_set, if_pos rfl, if_pos (by rw [HXL.out]; exact hlt)]
            · intro i hi
              rw [HY.out] at hi ⊢
              rcases HV.out.form with ⟨e, rfl⟩ | ⟨g, cp, e, hb, hltg, _⟩
              · simp at hi
              · cases e
                refine ⟨g, 0, rfl, by have := hs2'.size; omega, by omega, ?_⟩
                rw [Nat.zero_add]
                exact hs2'.cell (HV.out.cell i hi) (by simp; omega)
          · obtain ⟨ao, c2, e, hi⟩ := HU2.out j (by omega)
            refine ⟨ao, c2, by rw [List.getElem?_set, if_neg (by omega)]; exact e, fun i hii => ?_⟩
            obtain ⟨b2, off2, e2, h1, h2, h3⟩ := hi i hii
            exact ⟨b2, off2, e2, by have := hs2'.size; omega, h2, hs2'.cell h3 (by simp; exact h2)⟩
        · have hs2' := HS2.out
          exact ⟨hs2'.os.trans HG2.out.os, hs2'.tape.trans HG2.out.tape, hs2'.output.trans HG2.out.output, Nat.le_trans HG2.out.size hs2'.size, fun j hj _ => (hs2'.block j (by have := HG2.out.size; omega) (by simp; omega)).trans (HG2.out.block j hj (by simp))⟩
      case measure => simp [intOf]; omega
    · have hkn : k = n := by omega
      have HR : Hid (RdW wr (some ⟨w.heap.size, 0, none⟩) ws) := by
        intro j hj
        have hjn : j < k := by have := HN.out; omega
        obtain ⟨ao, c2, e, hi⟩ := HUP.out j hjn
        refine ⟨w.heap.size, 0, ao, c2, rfl, ?_, ?_⟩
        · rw [Nat.zero_add, HOW.out.cell j (by rw [HXL.out]; omega)]
          exact e
        · intro i hii
          obtain ⟨b2, off2, e2, _, _, h3⟩ := hi i hii
          exact ⟨b2, off2, e2, h3⟩
      go_wp2
      go_ret
      exact ⟨_, _, rfl, HR.out, HG.out⟩

theorem cloneAll_any (ao : Option Addr) (cap n : Nat) (ws : List (List Int)) (w : World) (hn : ws.length = n) (hrd : RdA w ao ws) (hnil : ao = none → cap = 0) (hlen : n ≤ 1099511627) (hwl : ∀ y ∈ ws, y.length ≤ 1099511627) :
    Calls Try.prog 16 #[.slice ao n cap] w fun e w' => ∃ a c, e = .returned (.slice a n c) ∧ RdW w' a ws ∧ w.grownBy w' none := by
  cases ao with
  | none =>
    obtain rfl := hnil rfl
    have hl : ws = [] := by
      cases ws with
      | nil => rfl
      | cons c l => obtain ⟨b, off, a, c, e, _⟩ := hrd 0 (by simp); cases e
    subst hl
    obtain rfl : n = 0 := hn.symm
    refine (cloneAll_nil w).mono ?_
    rintro e w' ⟨rfl, rfl⟩
    exact ⟨_, _, rfl, fun k hk => by simp at hk, World.grownBy.refl _ _⟩
  | some x => exact cloneAll_some x cap n ws w hn hrd hlen hwl
end Go.Proofs.Qxb6600352a.Split
