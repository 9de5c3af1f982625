/-
  The laws FnQuotedRefusesUnterminatedString and FnQuotedReadsEncodedStringAndLeavesTail, walked.
-/
import Derived.Test.Qxb6600432aEnc
namespace Go.Proofs.Qxb6600432a.Top
open Go.RowKit
open Go.Proofs.Qxb6600432a.Plain Go.Proofs.Qxb6600432a.Mem Go.Proofs.Qxb6600432a.Base Go.Proofs.Qxb6600432a.Quoted Go.Proofs.Qxb6600432a.Enc
set_option linter.unusedVariables false
set_option linter.unusedSimpArgs false

/-- append whose source may be nil. -/
theorem wpList_app_src {w : World} {ops : Array Oper} {rest : List Oper} {o : Oper} {a : Act} {Q : Exit → Act → World → Prop} (hgd : o.guard = none) (s x : Operand)
    (ho : o.op = .call { callee := .builtin .append, args := #[s, x], argTypes := #[22, 22] }) (base : Nat) (v : Value) (l : List Int) (hs : a.eval s = v) (hown : Own w base v l)
    (ao : Option Addr) (m c : Nat) (news : List Int) (hm : m = news.length) (hx : a.eval x = .slice ao m c) (hnil : ao = none → c = 0)
    (hrd : Rd w ao news) (hlen : l.length + news.length ≤ 1099511627776) (hbase : base ≤ w.heap.size)
    (h : ∀ v' w', Own w' base v' (l ++ news) → Grew w v w' v' → wpList Try.prog ops Q rest (a.put o.dst v') w') : wpList Try.prog ops Q (o :: rest) a w := by
  cases ao with
  | some ad =>
    refine wpList_app Try.underlying22 info5 hgd s x ho base v l hs hown ad m c news hm hx ?_ hlen hbase h
    intro j hj
    obtain ⟨b, off, e, hc⟩ := hrd j hj
    cases e
    rw [Addr.add_lit]
    exact hc
  | none =>
    obtain rfl := hnil rfl
    have hn : news = [] := by
      cases news with
      | nil => rfl
      | cons y ys => obtain ⟨b, off, e, _⟩ := hrd 0 (by simp); cases e
    subst hn
    obtain rfl : m = 0 := hm
    obtain ⟨i, hi, hz0, hz1, hz2⟩ := info_parts info5
    have hr := run_append_owned_none (P := Try.prog) w base 22 o.type 5 i 1 Try.underlying22 hi v l.length (bs l) hown
    refine wpList_plain hgd fun K hK => ?_
    unfold Oper.wp execOp
    simp only [ho, resolve, invoke, builtin, Sem.run_bind, Sem.run_pure, Result.andThen_ok, List.map_toArray, List.map_cons, List.map_nil, hs, hx, hr]
    exact hK _ _ (h v w (by rw [List.append_nil]; exact hown) (Grew.refl _ _))

theorem grew_new {w4 w5 w6 : World} {v v' : Value} (h : w4.grownBy w5 none) (hv : ∀ g, v.ownBlock = some g → w4.heap.size ≤ g) (hG : Grew w5 v w6 v') : w4.grownBy w6 none :=
  ⟨hG.grown.os.trans h.os, hG.grown.tape.trans h.tape, hG.grown.output.trans h.output, Nat.le_trans h.size hG.size, fun j hj _ => (hG.grown.block j (Nat.lt_of_lt_of_le hj h.size) (fun e => by have := hv j e.symm; omega)).trans (h.block j hj (by simp))⟩

theorem bytesB_yes (a0 a1 : Option Addr) (n0 c0 n1 c1 : Nat) (d : Bool) (w : World) (h : n0 + n1 ≤ 1048576) :
    Calls Try.prog 15 #[.slice a0 n0 c0, .slice a1 n1 c1, .bool d] w fun e w' => e = .returned (.bool true) ∧ w' = w := by
  go_enter Try.func15, Try.ntmps15
  go_wp2
  go_ret
  exact ⟨rfl, rfl⟩
theorem bytesB_no (a0 a1 : Option Addr) (n0 c0 n1 c1 : Nat) (d : Bool) (w : World) (h : 1048576 < n0 + n1) (h0 : n0 ≤ maxLen) (h1 : n1 ≤ maxLen) :
    Calls Try.prog 15 #[.slice a0 n0 c0, .slice a1 n1 c1, .bool d] w fun e w' => e = .returned (.bool false) ∧ w' = w := by
  unfold maxLen at h0 h1
  by_cases g0 : 1048576 < n0
  · go_enter Try.func15, Try.ntmps15
    go_wp2
    go_ret
    exact ⟨rfl, rfl⟩
  · by_cases g1 : 1048576 < n1
    · go_enter Try.func15, Try.ntmps15
      go_wp2
      go_ret
      exact ⟨rfl, rfl⟩
    · go_enter Try.func15, Try.ntmps15
      go_wp2
      go_ret
      exact ⟨rfl, rfl⟩
theorem refuses_big (a0 a1 : Option Addr) (n0 c0 n1 c1 : Nat) (d : Bool) (w : World) (h : 65536 < n0 ∨ 65536 < n1) (h0 : n0 ≤ maxLen) (h1 : n1 ≤ maxLen) :
    Calls Try.prog 4 #[.slice a0 n0 c0, .slice a1 n1 c1, .bool d] w fun e w' => e = .returned (.bool true) ∧ w' = w := by
  by_cases hs : 1048576 < n0 + n1
  · go_enter Try.func4, Try.ntmps4
    go_wp2_with (go_at_call 15; refine (bytesB_no _ _ _ _ _ _ _ _ hs h0 h1).mono ?_; rintro e w' ⟨rfl, hw⟩; obtain rfl := hw.symm)
    go_ret
    exact ⟨rfl, rfl⟩
  · by_cases g0 : 65536 < n0
    · go_enter Try.func4, Try.ntmps4
      go_wp2_with (go_at_call 15; refine (bytesB_yes _ _ _ _ _ _ _ _ (by omega)).mono ?_; rintro e w' ⟨rfl, hw⟩; obtain rfl := hw.symm)
      go_ret
      exact ⟨rfl, rfl⟩
    · have g1 : 65536 < n1 := by omega
      go_enter Try.func4, Try.ntmps4
      go_wp2_with (go_at_call 15; refine (bytesB_yes _ _ _ _ _ _ _ _ (by omega)).mono ?_; rintro e w' ⟨rfl, hw⟩; obtain rfl := hw.symm)
      go_ret
      exact ⟨rfl, rfl⟩

set_option maxHeartbeats 1000000 in
set_option maxRecDepth 100000 in
theorem refuses_top (a0 a1 : Option Addr) (n0 c0 n1 c1 : Nat) (cs : List Int) (es : List Bool) (d : Bool) (w : World) (e0 : cs.length = n0) (e1 : es.length = n1) (r0 : Rd w a0 cs) (r1 : RdB w a1 es) (z0 : a0 = none → c0 = 0) (z1 : a1 = none → c1 = 0) (h0 : n0 ≤ 65536) (h1 : n1 ≤ 65536) :
    Calls Try.prog 4 #[.slice a0 n0 c0, .slice a1 n1 c1, .bool d] w fun e w' => e = .returned (.bool true) ∧ Below w.heap.size w w' := by
  have R0 : Hid (Rd w a0 cs) := r0
  have R1 : Hid (RdB w a1 es) := r1
  have Z0 : Hid (a0 = none → c0 = 0) := z0
  have Z1 : Hid (a1 = none → c1 = 0) := z1
  have E0 : Hid (cs.length = n0) := e0
  have E1 : Hid (es.length = n1) := e1
  clear r0 r1 z0 z1 e0 e1
  have heq := fun (w : World) (a : Option Addr) (n c n2 c2 : Nat) => Lib.run_eql_slice_nil (P := Try.prog) w _ _ a n c n2 c2 Try.underlying22
  obtain ⟨i0, hi, hz0, hz1, hz2⟩ := info_parts info5
  go_enter Try.func4, Try.ntmps4
  go_wp2_with (go_at_call 15; refine (bytesB_yes _ _ _ _ _ _ _ _ (by omega)).mono ?_; rintro e w' ⟨rfl, hw⟩; obtain rfl := hw.symm)
  refine (clone_at a0 c0 cs n0 w E0.out R0.out Z0.out (by rw [E0.out]; omega)).mono ?_
  rintro e w1 ⟨v1, rfl, ho1, hg1⟩
  obtain ⟨ca, cc, rfl, _, _, hr1, _⟩ := clone_form_n ho1 n0 E0.out
  have HC1 : Hid (Rd w1 ca cs) := hr1
  have HG1 : Hid (w.grownBy w1 none) := hg1
  clear ho1 hr1 hg1
  go_wp2_with fail
  refine (cloneB_any a1 c1 n1 es w1 E1.out (RdB.grown R1.out HG1.out) Z1.out (by omega)).mono ?_
  rintro e w2 ⟨ea, ec, rfl, hr2, hg2⟩
  have HC2 : Hid (Rd w2 ca cs) := Rd.grown HC1.out hg2
  have HE2 : Hid (RdB w2 ea es) := hr2
  have HG2 : Hid (w.grownBy w2 none) := grown_trans HG1.out hg2
  clear hr2 hg2 HG1 HC1
  go_wp2_with fail
  refine (encode_any ca ea n0 cc n1 ec cs es w2 E0.out E1.out HC2.out HE2.out (by omega) (by omega)).mono ?_
  rintro e w3 ⟨g, bc, rfl, ho3, hg3⟩
  have hBl : (encF es 0 cs).length ≤ 131072 := by have := encF_len es cs 0; have := E0.out; omega
  have HQ0 : Hid (qz (34 :: (encF es 0 cs ++ [])) false = none) := qz_open es cs [] (.inl rfl)
  have HQ1 : Hid (qz (34 :: (encF es 0 cs ++ [92])) false = none) := qz_open es cs [92] (.inr rfl)
  generalize encF es 0 cs = B at *
  generalize plF es 0 cs = PL at *
  have HB3 : Hid (Rd w3 (some ⟨g, 0, none⟩) B) := Own.rd ho3
  have HG3 : Hid (w.grownBy w3 none) := grown_trans HG2.out hg3
  clear ho3 hg3 HG2 HC2 HE2
  go_wp2_with (first | (at_make; refine wpList_make_own _ rfl _ _ 22 rfl w3.heap.size 5 i0 (.int .u8 0) 1 Try.underlying22 hi hz0 hz1 _ _ _ (B.length + 2) rfl rfl (by omega) (by rw [hz2]; omega) (by unfold maxLen; omega) (Nat.le_refl _) ?_))
  intro w4 hown4 hgrow4
  have HO4 : Hid (Own w4 w3.heap.size (.slice (some ⟨w3.heap.size, 0, none⟩) 0 (B.length + 2)) []) := hown4
  have HG4 : Hid (w3.grownBy w4 none) := hgrow4
  have hs4 : w3.heap.size ≤ w4.heap.size := hgrow4.size
  clear hown4 hgrow4 hi hz0 hz1 hz2
  have hg5 : Hid (∀ (w5 : World) (v5 : Value), Own w5 w3.heap.size v5 ([] ++ [34]) → Grew (w4.alloc (.cells #[.int .u8 34] 5)) (.slice (some ⟨w3.heap.size, 0, none⟩) 0 (B.length + 2)) w5 v5 → w3.grownBy w5 none) :=
    fun w5 v5 ho hG => grew_new HG4.out (fun g hg => (HO4.out.lt g hg).1) ((Grew.alloc _ _ _).trans hG)
  cases d with
  | false =>
    go_wp2_with (first | (at_builtin; refine wpList_app Try.underlying22 info5 rfl (.tmp 48) (.tmp 49) rfl w3.heap.size _ [] rfl (Own.alloc HO4.out _) ⟨w4.heap.size, 0, none⟩ 1 1 [34] rfl rfl (one_new _ _) (by simp) (by simp; omega) ?_; intro v5 w5 hown5 hG5; have hgn5 := hg5.out w5 v5 hown5 hG5; have HR5 : Hid (Rd w5 (some ⟨g, 0, none⟩) B) := Rd.grown HB3.out hgn5; have hs5 : w3.heap.size ≤ w5.heap.size := hgn5.size) | (at_builtin; refine wpList_app_src rfl (.tmp 51) (.tmp 52) rfl w3.heap.size _ _ rfl hown5 _ _ _ B rfl rfl (by intro e; cases e) HR5.out (by simp; omega) hs5 ?_; intro v6 w6 hown6 hG6))
    have hgn6 : w3.grownBy w6 none := grew_new hgn5 (fun g hg => (hown5.lt g hg).1) hG6
    have HGF : Hid (w.grownBy w6 none) := grown_trans HG3.out hgn6
    rw [show (([] : List Int) ++ [34] ++ B) = (34 :: (B ++ ([] : List Int))) by simp] at hown6
    have hL : ((34 :: (B ++ ([] : List Int)))).length ≤ 200000 := by simp; omega
    have HQ : Hid (qz ((34 :: (B ++ ([] : List Int)))) false = none) := HQ0.out
    clear hG6 HQ0 HQ1 hown5 hG5 hgn5 hg5 HO4 HG4 HB3 HG3 HR5
    generalize (34 :: (B ++ ([] : List Int))) = L at *
    obtain ⟨a6, c6, rfl, hc6, hm6, hr6, hn6⟩ := clone_form hown6
    have HR6 : Hid (Rd w6 a6 L) := hr6
    have HN6 : Hid (a6 = none → c6 = 0) := hn6
    have HM6 : Hid (c6 ≤ maxLen) := hm6
    have HC6 : Hid (L.length ≤ c6) := hc6
    clear hr6 hn6 hm6 hown6 hgn6
    refine (clone_any a6 c6 L w6 HR6.out HN6.out (by omega)).mono ?_
    rintro e w8 ⟨v8, rfl, ho8, hg8⟩
    obtain ⟨a8, c8, rfl, hc8, hm8, hr8, hn8⟩ := clone_form ho8
    have HG8 : Hid (w.grownBy w8 none) := grown_trans HGF.out hg8
    have HB8 : Hid (Rd w8 a6 L) := Rd.grown HR6.out hg8
    have HW8 : Hid (Rd w8 a8 L) := hr8
    clear hg8 hr8 ho8 hn8 hm8
    go_wp2_with fail
    refine (zzQuoted_any a6 L.length c6 L false w8 rfl HB8.out HC6.out HM6.out (by omega)).mono ?_
    rintro e w9 h9
    rw [HQ.out] at h9
    obtain ⟨hg9, rfl⟩ := h9
    have HG9 : Hid (w.grownBy w9 none) := grown_trans HG8.out hg9
    have HB9 : Hid (Rd w9 a6 L) := Rd.grown HB8.out hg9
    have HW9 : Hid (Rd w9 a8 L) := Rd.grown HW8.out hg9
    clear hg9
    go_wp2_with fail
    refine (same_any _ _ c6 c8 L L w9 (by omega) HB9.out HW9.out).mono ?_
    rintro e w10 ⟨rfl, n1, rfl⟩
    rw [show (L == L) = true by simp]
    go_wp2
    go_ret
    exact ⟨rfl, below_drewN (below_of_grown HG9.out) n1⟩
  | true =>
    go_wp2_with (first | (at_builtin; refine wpList_app Try.underlying22 info5 rfl (.tmp 48) (.tmp 49) rfl w3.heap.size _ [] rfl (Own.alloc HO4.out _) ⟨w4.heap.size, 0, none⟩ 1 1 [34] rfl rfl (one_new _ _) (by simp) (by simp; omega) ?_; intro v5 w5 hown5 hG5; have hgn5 := hg5.out w5 v5 hown5 hG5; have HR5 : Hid (Rd w5 (some ⟨g, 0, none⟩) B) := Rd.grown HB3.out hgn5; have hs5 : w3.heap.size ≤ w5.heap.size := hgn5.size) | (at_builtin; refine wpList_app_src rfl (.tmp 51) (.tmp 52) rfl w3.heap.size _ _ rfl hown5 _ _ _ B rfl rfl (by intro e; cases e) HR5.out (by simp; omega) hs5 ?_; intro v6 w6 hown6 hG6; have hgn6 : w3.grownBy w6 none := grew_new hgn5 (fun g hg => (hown5.lt g hg).1) hG6; have hs6 : w3.heap.size ≤ w6.heap.size := hgn6.size) | (at_builtin; refine wpList_app Try.underlying22 info5 rfl (.tmp 55) (.tmp 56) rfl w3.heap.size _ _ rfl (Own.alloc hown6 _) ⟨w6.heap.size, 0, none⟩ 1 1 [92] rfl rfl (one_new _ _) (by simp; omega) (by simp; omega) ?_; intro v7 w7 hown7 hG7))
    have hgn7 : w3.grownBy w7 none := grew_new hgn6 (fun g hg => (hown6.lt g hg).1) ((Grew.alloc _ _ _).trans hG7)
    have HGF : Hid (w.grownBy w7 none) := grown_trans HG3.out hgn7
    rw [show (([] : List Int) ++ [34] ++ B ++ [92]) = (34 :: (B ++ ([92] : List Int))) by simp] at hown7
    have hL : ((34 :: (B ++ ([92] : List Int)))).length ≤ 200000 := by simp; omega
    have HQ : Hid (qz ((34 :: (B ++ ([92] : List Int)))) false = none) := HQ1.out
    clear hG7 hown6 hG6 hgn6 HQ0 HQ1 hown5 hG5 hgn5 hg5 HO4 HG4 HB3 HG3 HR5
    generalize (34 :: (B ++ ([92] : List Int))) = L at *
    obtain ⟨a6, c6, rfl, hc6, hm6, hr6, hn6⟩ := clone_form hown7
    have HR6 : Hid (Rd w7 a6 L) := hr6
    have HN6 : Hid (a6 = none → c6 = 0) := hn6
    have HM6 : Hid (c6 ≤ maxLen) := hm6
    have HC6 : Hid (L.length ≤ c6) := hc6
    clear hr6 hn6 hm6 hown7 hgn7
    refine (clone_any a6 c6 L w7 HR6.out HN6.out (by omega)).mono ?_
    rintro e w8 ⟨v8, rfl, ho8, hg8⟩
    obtain ⟨a8, c8, rfl, hc8, hm8, hr8, hn8⟩ := clone_form ho8
    have HG8 : Hid (w.grownBy w8 none) := grown_trans HGF.out hg8
    have HB8 : Hid (Rd w8 a6 L) := Rd.grown HR6.out hg8
    have HW8 : Hid (Rd w8 a8 L) := hr8
    clear hg8 hr8 ho8 hn8 hm8
    go_wp2_with fail
    refine (zzQuoted_any a6 L.length c6 L false w8 rfl HB8.out HC6.out HM6.out (by omega)).mono ?_
    rintro e w9 h9
    rw [HQ.out] at h9
    obtain ⟨hg9, rfl⟩ := h9
    have HG9 : Hid (w.grownBy w9 none) := grown_trans HG8.out hg9
    have HB9 : Hid (Rd w9 a6 L) := Rd.grown HB8.out hg9
    have HW9 : Hid (Rd w9 a8 L) := Rd.grown HW8.out hg9
    clear hg9
    go_wp2_with fail
    refine (same_any _ _ c6 c8 L L w9 (by omega) HB9.out HW9.out).mono ?_
    rintro e w10 ⟨rfl, n1, rfl⟩
    rw [show (L == L) = true by simp]
    go_wp2
    go_ret
    exact ⟨rfl, below_drewN (below_of_grown HG9.out) n1⟩
end Go.Proofs.Qxb6600432a.Top
