/-
  Maps of strings by strings that the call makes (nil too): look-up, zzChanged, zzFillMap, zzBuildMap.
-/
import Derived.Test.Qxb6600432aStr
import Derived.Maps.StringElems
import Derived.Sort.KeysCollected
namespace Go.Proofs.Qxb6600432a.Maps
open Go.RowKit Go.Maps
open Go.Proofs.Qxb6600432a.Mem Go.Proofs.Qxb6600432a.Top Go.Proofs.Qxb6600432a.Str
set_option linter.unusedVariables false
set_option linter.unusedSimpArgs false

noncomputable abbrev PE : Value → Option (DataW Unit × List MemPlace) := plainElem Try.prog 9
theorem law9 : Keyed Try.prog 9 := string_keyed Try.underlying9
theorem zero9 (w : World) : (zeroValue 9).run Try.prog w = .ok (.string (str [])) w := by kernel_rfl
theorem key9 (x : List UInt8) (hx : x.length ≤ maxLen) : keyOf Try.prog 9 (.string (str x)) = some (.string x) := by
  have h := Go.WideMaps.keyOf_string_mk (P := Try.prog) (k := 9) Try.underlying9 (s := str x) (by rw [str_size]; exact hx)
  rw [str_list] at h
  exact h
theorem elem9 (x : List UInt8) (hx : x.length ≤ maxLen) : PE (.string (str x)) = some (.lit (.string x), []) := by
  have h := plainElem_string (H := Unit) (P := Try.prog) (e := 9) Try.underlying9 (s := str x) (by rw [str_size]; exact hx)
  rw [str_list] at h
  exact h
theorem elem9_inv {v : Value} {z : DataW Unit × List MemPlace} (h : PE v = some z) : ∃ x : List UInt8, v = .string (str x) ∧ z = (.lit (.string x), []) ∧ x.length ≤ maxLen := by
  obtain ⟨s, rfl, rfl, hs⟩ := plainElem_string_inv Try.underlying9 h
  refine ⟨s.data.toList, ?_, rfl, ?_⟩
  · congr 1
  · have e : s.data.toList.length = s.size := Array.length_toList
    rw [e]
    exact hs

def sOf : DataW Unit → List UInt8
  | .lit (.string b) => b
  | _ => []
def val (D : DataW Unit) (x : List UInt8) : List UInt8 := sOf (D.atKey (.string x) (.lit (.string [])))
def hasS (D : DataW Unit) (x : List UInt8) : Bool := Maps.has D (.string x)
def chg (D1 D2 : DataW Unit) (x : List UInt8) : Bool := if hasS D1 x != hasS D2 x then true else hasS D1 x && (val D1 x != val D2 x)

def MapAt (w : World) (mv : Value) (D : DataW Unit) : Prop := (mv = .map none ∧ D = .map []) ∨ ∃ b n, mv = .map (some b) ∧ w.ownsMap Try.prog 9 PE b n D ∧ n ≤ 1048576

theorem MapAt.grown {w w' : World} {mv : Value} {D : DataW Unit} (h : MapAt w mv D) (g : w.grownBy w' none) : MapAt w' mv D := by
  rcases h with h | ⟨b, n, rfl, ho, hn⟩
  · exact .inl h
  · exact .inr ⟨b, n, rfl, ho.kept g (by simp), hn⟩

theorem look_at {w : World} {mv : Value} {D : DataW Unit} (h : MapAt w mv D) (x : List UInt8) (hx : x.length ≤ maxLen) :
    (Instr.lookup 38 mv (.string (str x)) true).run Try.prog w = .ok (.tuple #[.string (str (val D x)), .bool (hasS D x)]) w ∧ (val D x).length ≤ maxLen := by
  rcases h with ⟨rfl, rfl⟩ | ⟨b, n, rfl, ho, hn⟩
  · have e := Maps.look_nil (P := Try.prog) (w := w) true law9 Try.underlying38 (zero9 w) (key9 x hx)
    refine ⟨e, ?_⟩
    show ([] : List UInt8).length ≤ maxLen
    simp
  · obtain ⟨v, ps, hrun, hv⟩ := ho.look_ok law9 Try.underlying38 (zero9 w) (elem9 [] (by simp)) (key9 x hx)
    obtain ⟨y, rfl, hy, hl⟩ := elem9_inv hv
    have e : val D x = y := by
      unfold val
      rw [(Prod.mk.inj hy).1]
      rfl
    rw [e]
    exact ⟨hrun, hl⟩

/-- 'v, ok := m[k]'. -/
theorem wpList_look {w : World} {ops : Array Oper} {rest : List Oper} {o : Oper} {a : Act} {Q : Exit → Act → World → Prop} (hg : o.guard = none) (m x : Operand) (hop : o.op = Op.lookup 38 m x true) (mv : Value) (D : DataW Unit) (hm : a.eval m = mv) (h : MapAt w mv D)
    (y : List UInt8) (hx : a.eval x = .string (str y)) (hy : y.length ≤ maxLen) (b : Bool) (hb : hasS D y = b) (v : List UInt8) (hv : val D y = v)
    (hK : wpList Try.prog ops Q rest (a.put o.dst (.tuple #[.string (str v), .bool b])) w) : wpList Try.prog ops Q (o :: rest) a w := by
  subst hb hv
  refine wpList_plain hg fun K' hK' => ?_
  have hrun := (look_at h y hy).1
  unfold Oper.wp
  simp [execOp, hop, hm, hx, hrun, Result.andThen]
  exact hK' _ _ hK

set_option maxHeartbeats 400000 in
theorem changed_any (m1 m2 : Value) (D1 D2 : DataW Unit) (x : List UInt8) (w : World) (h1 : MapAt w m1 D1) (h2 : MapAt w m2 D2) (hx : x.length ≤ maxLen) :
    Calls Try.prog 22 #[m1, m2, .string (str x)] w fun e w' => e = .returned (.bool (chg D1 D2 x)) ∧ w' = w := by
  have H1 : Hid (MapAt w m1 D1) := h1
  have H2 : Hid (MapAt w m2 D2) := h2
  obtain ⟨b1, e1⟩ : ∃ b, hasS D1 x = b := ⟨_, rfl⟩
  obtain ⟨b2, e2⟩ : ∃ b, hasS D2 x = b := ⟨_, rfl⟩
  obtain ⟨v1, f1⟩ : ∃ v, val D1 x = v := ⟨_, rfl⟩
  obtain ⟨v2, f2⟩ : ∃ v, val D2 x = v := ⟨_, rfl⟩
  have hc : chg D1 D2 x = if b1 != b2 then true else b1 && (v1 != v2) := by unfold chg; rw [e1, e2, f1, f2]
  rw [hc]
  have E1 : Hid (hasS D1 x = b1) := e1
  have E2 : Hid (hasS D2 x = b2) := e2
  have F1 : Hid (val D1 x = v1) := f1
  have F2 : Hid (val D2 x = v2) := f2
  clear e1 e2 f1 f2 hc h1 h2
  obtain ⟨d, hd⟩ : ∃ d, (v1 == v2) = d := ⟨_, rfl⟩
  have hne : ((str v1).toList == (str v2).toList) = d := by
    rw [ByteArray.toList_eq, ByteArray.toList_eq, str_list, str_list]
    exact hd
  have hd' : (v1 != v2) = !d := by rw [← hd]; rfl
  rw [hd']
  clear hd hd'
  cases b1 <;> cases b2
  all_goals
    go_enter Try.func22, Try.ntmps22
    go_wp2_with (first
      | (at_lookup; refine wpList_look rfl (.tmp 12) (.tmp 13) rfl _ D1 rfl H1.out x rfl hx _ E1.out _ F1.out ?_)
      | (at_lookup; refine wpList_look rfl (.tmp 18) (.tmp 19) rfl _ D2 rfl H2.out x rfl hx _ E2.out _ F2.out ?_))
    go_ret
    exact ⟨rfl, rfl⟩

/-- What the map reads as after k rounds of zzFillMap. -/
def fillD (keys vals : List (List UInt8)) : Nat → DataW Unit
  | 0 => .map []
  | k + 1 => (fillD keys vals k).put (.string (keys.getD k [])) (.lit (.string (vals.getD k [])))

/-- Cells read as before while the map in block B is written. -/
theorem RdS.map {w w' : World} {ao : Option Addr} {ss : List (List UInt8)} {B n : Nat} {D : DataW Unit} (h : RdS w ao ss) (ho : w.ownsMap Try.prog 9 PE B n D) (g : w.grownBy w' (some B)) : RdS w' ao ss := by
  intro j hj
  obtain ⟨b, off, e, hc⟩ := h j hj
  refine ⟨b, off, e, g.cell hc ?_⟩
  intro e
  obtain ⟨es, clock, hb, _⟩ := ho
  have e' : b = B := by simpa using e
  subst e'
  simp [World.cell?, hb] at hc

theorem le_getD {ss : List (List UInt8)} (h : ∀ x ∈ ss, x.length ≤ maxLen) (k : Nat) : (ss.getD k []).length ≤ maxLen := by
  by_cases hk : k < ss.length
  · exact h _ (getD_mem _ _ _ hk)
  · simp [List.getD, List.getElem?_eq_none (by omega : ss.length ≤ k)]

set_option maxHeartbeats 400000 in
theorem fill_any (B : Nat) (ka va : Option Addr) (kn kc vn vc : Nat) (keys vals : List (List UInt8)) (w : World) (ho : w.ownsMap Try.prog 9 PE B 0 (.map [])) (hk : keys.length = kn) (hv : vals.length = vn) (rk : RdS w ka keys) (rv : RdS w va vals) (hb : kn ≤ 1048576) (hvb : vn ≤ 1048576)
    (lk : ∀ x ∈ keys, x.length ≤ maxLen) (lv : ∀ x ∈ vals, x.length ≤ maxLen) :
    Calls Try.prog 25 #[.map (some B), .slice ka kn kc, .slice va vn vc] w fun e w' => e = .returned (.tuple #[]) ∧ w'.ownsMap Try.prog 9 PE B kn (fillD keys vals kn) ∧ w.grownBy w' (some B) := by
  have HO : Hid (w.ownsMap Try.prog 9 PE B 0 (.map [])) := ho
  have HK : Hid (keys.length = kn) := hk
  have HV : Hid (vals.length = vn) := hv
  have RK : Hid (RdS w ka keys) := rk
  have RV : Hid (RdS w va vals) := rv
  have LK : Hid (∀ x ∈ keys, x.length ≤ maxLen) := lk
  have LV : Hid (∀ x ∈ vals, x.length ≤ maxLen) := lv
  clear ho hk hv rk rv lk lv
  go_enter Try.func25, Try.ntmps25
  go_wp2
  go_loopw [6] (fun iv wr => ∃ k : Nat, k ≤ kn ∧ iv = .int .i64 k ∧ wr.ownsMap Try.prog 9 PE B k (fillD keys vals k) ∧ w.grownBy wr (some B)) (fun iv _ => kn - (intOf iv).toNat)
  case atStart => exact ⟨0, by omega, rfl, HO.out, World.grownBy.refl _ _⟩
  case round =>
    obtain ⟨k, hk, rfl, hown, hgr⟩ := hrel
    have OW : Hid (wr.ownsMap Try.prog 9 PE B k (fillD keys vals k)) := hown
    have GR : Hid (w.grownBy wr (some B)) := hgr
    clear hown hgr
    by_cases hlt : k < kn
    · obtain ⟨b, off, rfl, hc⟩ := (RdS.map RK.out HO.out GR.out) k (by rw [HK.out]; exact hlt)
      have hkl := le_getD LK.out k
      have hvl := le_getD LV.out k
      have HSTEP : Hid (fillD keys vals (k + 1) = (fillD keys vals k).put (.string (keys.getD k [])) (.lit (.string (vals.getD k [])))) := rfl
      have KK : Hid ((keys.getD k []).length ≤ maxLen) := hkl
      have VV : Hid ((vals.getD k []).length ≤ maxLen) := hvl
      clear hkl hvl
      by_cases hlv : k < vn
      · obtain ⟨b2, off2, rfl, hc2⟩ := (RdS.map RV.out HO.out GR.out) k (by rw [HV.out]; exact hlv)
        generalize keys.getD k [] = x at *
        generalize vals.getD k [] = y at *
        go_wp2_with (first
          | (at_mapUpdate; refine wpList_mapUpdate_own _ rfl _ _ _ 38 rfl 9 9 law9 Try.underlying38 _ B k _ rfl OW.out (by unfold maxLen; omega) _ _ _ rfl rfl (key9 x KK.out) _ [] (elem9 y VV.out) ?_; intro w1 hown1 hgrow1; have OW1 : Hid (w1.ownsMap Try.prog 9 PE B (k + 1) (fillD keys vals (k + 1))) := HSTEP.out.symm ▸ hown1; have GR1 : Hid (w.grownBy w1 (some B)) := GR.out.andThen hgrow1 (fun j hj => .inr hj); clear hown1 hgrow1)
          | go_in)
        go_roundw
        case rel => exact ⟨k + 1, by omega, by go_num, OW1.out, GR1.out⟩
        case measure => simp [intOf]; omega
      · have hve : vals.getD k [] = [] := by simp [List.getD, List.getElem?_eq_none (by rw [HV.out]; omega : vals.length ≤ k)]
        rw [hve] at HSTEP VV
        generalize keys.getD k [] = x at *
        go_wp2_with (first
          | (at_mapUpdate; refine wpList_mapUpdate_own _ rfl _ _ _ 38 rfl 9 9 law9 Try.underlying38 _ B k _ rfl OW.out (by unfold maxLen; omega) _ _ _ rfl rfl (key9 x KK.out) _ [] (elem9 [] VV.out) ?_; intro w1 hown1 hgrow1; have OW1 : Hid (w1.ownsMap Try.prog 9 PE B (k + 1) (fillD keys vals (k + 1))) := HSTEP.out.symm ▸ hown1; have GR1 : Hid (w.grownBy w1 (some B)) := GR.out.andThen hgrow1 (fun j hj => .inr hj); clear hown1 hgrow1)
          | go_in)
        go_roundw
        case rel => exact ⟨k + 1, by omega, by go_num, OW1.out, GR1.out⟩
        case measure => simp [intOf]; omega
    · obtain rfl : k = kn := by omega
      go_wp2
      go_end0
      exact ⟨rfl, OW.out, GR.out⟩

theorem run_makeHint (t k e : TypeId) (ht : Try.prog.underlying t = some (.map k e)) (n : Int) (w : World) : (Instr.makeMap t (some (.int .i64 n))).run Try.prog w = .ok (.map (some w.heap.size)) (w.alloc (.map #[] 0)) := by
  simp [Instr.makeMap, run_underlying ht, asInt, asIntOf, Result.andThen]

theorem RdS.alloc {w : World} {ao : Option Addr} {ss : List (List UInt8)} (h : RdS w ao ss) (o : Obj) : RdS (w.alloc o) ao ss := RdS.grown h (World.grownBy_alloc w o none)

set_option maxHeartbeats 400000 in
theorem build_any (ka va : Option Addr) (kn kc vn vc : Nat) (keys vals : List (List UInt8)) (w : World) (hk : keys.length = kn) (hv : vals.length = vn) (rk : RdS w ka keys) (rv : RdS w va vals) (hb : kn ≤ 1048576) (hvb : vn ≤ 1048576)
    (lk : ∀ x ∈ keys, x.length ≤ maxLen) (lv : ∀ x ∈ vals, x.length ≤ maxLen) :
    Calls Try.prog 20 #[.slice ka kn kc, .slice va vn vc] w fun e w' => ∃ mv, e = .returned mv ∧ MapAt w' mv (fillD keys vals kn) ∧ w.grownBy w' none := by
  have hn := fun (w : World) (a : Option Addr) (n c n2 c2 : Nat) => Lib.run_eql_slice_nil (P := Try.prog) w _ _ a n c n2 c2 Try.underlying34
  have hmm := fun (n : Int) (w : World) => run_makeHint 38 9 9 Try.underlying38 n w
  cases ka with
  | none =>
    have e : keys = [] := by
      cases keys with
      | nil => rfl
      | cons x l => obtain ⟨b, off, e, _⟩ := rk 0 (by simp); cases e
    subst e
    have hk0 : kn = 0 := hk.symm
    subst hk0
    clear rk rv hk hv lk lv
    go_enter Try.func20, Try.ntmps20
    go_wp2
    go_ret
    exact ⟨_, rfl, .inl ⟨rfl, rfl⟩, World.grownBy.refl _ _⟩
  | some x =>
    have HF := fill_any w.heap.size (some x) va kn kc vn vc keys vals (w.alloc (.map #[] 0)) (World.ownsMap_made _ _ _ _) hk hv (RdS.alloc rk _) (RdS.alloc rv _) hb hvb lk lv
    clear rk rv hk hv lk lv
    go_enter Try.func20, Try.ntmps20
    go_wp2_with (go_at_call 25; refine HF.mono ?_; rintro e w' ⟨rfl, hO, hG⟩; have OW : Hid (w'.ownsMap Try.prog 9 PE w.heap.size kn (fillD keys vals kn)) := hO; have GR : Hid (w.grownBy w' none) := (World.grownBy_alloc w _ none).andThen hG (fun j hj => by cases hj; exact .inl (Nat.le_refl _)); clear hO hG)
    go_ret
    exact ⟨_, rfl, .inr ⟨_, _, rfl, OW.out, hb⟩, GR.out⟩
end Go.Proofs.Qxb6600432a.Maps
