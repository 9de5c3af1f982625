/-
  Byte slices of the call's own, told by a list of Int: 'Own'; what an append leaves: 'Grew'. Of whatever program whose type 22 is []byte over type 5.
-/
import Derived.WalkKit
import Derived.Maps.AppendAt
import Derived.WalkSmall
namespace Go.Proofs.Qxb6600432a.Mem
open Go.RowKit
set_option linter.unusedVariables false
set_option linter.unusedSimpArgs false

def bs (l : List Int) : List Value := l.map (Value.int .u8)
/-- The slice value v is the call's own (a row from block number 'base' on, or nil) and reads as l. -/
def Own (w : World) (base : Nat) (v : Value) (l : List Int) : Prop := w.ownsRow base 5 1 v l.length (bs l)
def lenOf : Value → Nat
  | .slice _ n _ => n
  | _ => 0
def capOf : Value → Nat
  | .slice _ _ c => c
  | _ => 0

/-- From world w with the slice v to world w' with the slice v': no block but v's own has turned; v' lies where v lay or in a new block; as long as it fits it lies where it lay. -/
structure Grew (w : World) (v : Value) (w' : World) (v' : Value) : Prop where
  grown : w.grownBy w' v.ownBlock
  lies : v'.ownBlock = v.ownBlock ∨ ∀ g, v'.ownBlock = some g → w.heap.size ≤ g
  long : lenOf v ≤ lenOf v'
  fits : v.ownBlock ≠ none → lenOf v' ≤ capOf v → v'.ownBlock = v.ownBlock ∧ capOf v' = capOf v
  keep : ∀ g cur, v.ownBlock = some g → w.heap[g]? = some (.cells cur 5 (0, 0)) → ∃ cur', w'.heap[g]? = some (.cells cur' 5 (0, 0)) ∧ cur'.size = cur.size ∧ cur'.toList.take (lenOf v) = cur.toList.take (lenOf v)

theorem Grew.refl (w : World) (v : Value) : Grew w v w v := ⟨World.grownBy.refl _ _, .inl rfl, Nat.le_refl _, fun _ _ => ⟨rfl, rfl⟩, fun _ cur _ h => ⟨cur, h, rfl, rfl⟩⟩

theorem Grew.trans {w w1 w2 : World} {v v1 v2 : Value} (h : Grew w v w1 v1) (k : Grew w1 v1 w2 v2) : Grew w v w2 v2 := by
  refine ⟨⟨k.grown.os.trans h.grown.os, k.grown.tape.trans h.grown.tape, k.grown.output.trans h.grown.output, Nat.le_trans h.grown.size k.grown.size, ?_⟩, ?_, Nat.le_trans h.long k.long, ?_, ?_⟩
  · intro i hi hne
    have hs := h.grown.size
    rw [k.grown.block i (by omega) ?_, h.grown.block i hi hne]
    rcases h.lies with e | e
    · rw [e]; exact hne
    · intro e2
      have := e i e2.symm
      omega
  · have hs := h.grown.size
    rcases k.lies with e | e
    · rcases h.lies with e' | e'
      · exact .inl (e.trans e')
      · exact .inr fun g hg => e' g (e ▸ hg)
    · exact .inr fun g hg => by have := e g hg; omega
  · intro hn hl
    have h1 := h.fits hn (Nat.le_trans k.long hl)
    have h2 := k.fits (by rw [h1.1]; exact hn) (by rw [h1.2]; exact hl)
    exact ⟨h2.1.trans h1.1, h2.2.trans h1.2⟩
  · intro g cur hg hcur
    have hlt : g < w.heap.size := (Array.getElem?_eq_some_iff.1 hcur).1
    have hs := h.grown.size
    obtain ⟨c1, a1, a2, a3⟩ := h.keep g cur hg hcur
    rcases h.lies with e | e
    · obtain ⟨c2, b1, b2, b3⟩ := k.keep g c1 (by rw [e]; exact hg) a1
      refine ⟨c2, b1, b2.trans a2, ?_⟩
      have hl := h.long
      have e2 := congrArg (List.take (lenOf v)) b3
      rw [List.take_take, List.take_take, Nat.min_eq_left hl] at e2
      exact e2.trans a3
    · refine ⟨c1, ?_, a2, a3⟩
      rw [k.grown.block g (by omega) ?_]
      · exact a1
      · intro e2
        have := e g e2.symm
        omega

theorem Grew.alloc (w : World) (v : Value) (o : Obj) : Grew w v (w.alloc o) v := ⟨World.grownBy_alloc _ _ _, .inl rfl, Nat.le_refl _, fun _ _ => ⟨rfl, rfl⟩, fun g cur _ h => ⟨cur, by rw [Below.heap_alloc _ _ _ (Array.getElem?_eq_some_iff.1 h).1]; exact h, rfl, rfl⟩⟩
theorem Grew.drewN (w : World) (v : Value) (n : Nat) : Grew w v (w.drewN n) v := ⟨⟨rfl, rfl, rfl, Nat.le_refl _, fun _ _ _ => rfl⟩, .inl rfl, Nat.le_refl _, fun _ _ => ⟨rfl, rfl⟩, fun _ cur _ h => ⟨cur, h, rfl, rfl⟩⟩
theorem Grew.drew (w : World) (v : Value) : Grew w v w.drew v := ⟨⟨rfl, rfl, rfl, Nat.le_refl _, fun _ _ _ => rfl⟩, .inl rfl, Nat.le_refl _, fun _ _ => ⟨rfl, rfl⟩, fun _ cur _ h => ⟨cur, h, rfl, rfl⟩⟩

theorem Grew.size {w w' : World} {v v' : Value} (h : Grew w v w' v') : w.heap.size ≤ w'.heap.size := h.grown.size
theorem Grew.cell {w w' : World} {v v' : Value} (h : Grew w v w' v') {a : Addr} (hlt : a.block < w.heap.size) (hne : v.ownBlock ≠ some a.block) : w'.cell? a = w.cell? a :=
  World.cell?_of_block (h.grown.block a.block hlt (fun e => hne e.symm))
/-- Below a number under which v does not lie nothing has turned. -/
theorem Grew.below {w w' : World} {v v' : Value} (h : Grew w v w' v') {B : Nat} (hB : B ≤ w.heap.size) (hv : ∀ g, v.ownBlock = some g → B ≤ g) : Below B w w' :=
  ⟨h.grown.os, h.grown.tape, h.grown.output, h.grown.size, fun k hk => h.grown.block k (by omega) (fun e => by have := hv k e.symm; omega)⟩

theorem Own.len {w : World} {base : Nat} {v : Value} {l : List Int} (h : Own w base v l) : lenOf v = l.length := by
  rcases h.2 with ⟨rfl, h0⟩ | ⟨g, cap, cur, rfl, _⟩
  · exact h0.symm
  · rfl
theorem Own.form {w : World} {base : Nat} {v : Value} {l : List Int} (h : Own w base v l) :
    (v = .slice none 0 0 ∧ l = []) ∨ ∃ g cap, v = .slice (some ⟨g, 0, none⟩) l.length cap ∧ base ≤ g ∧ g < w.heap.size ∧ l.length ≤ cap ∧ cap ≤ maxLen := by
  rcases h.2 with ⟨rfl, h0⟩ | ⟨g, cap, cur, rfl, hb, hg, hn, hc, _⟩
  · exact .inl ⟨rfl, List.eq_nil_of_length_eq_zero h0⟩
  · exact .inr ⟨g, cap, rfl, hb, (Array.getElem?_eq_some_iff.1 hg).1, hn, hc⟩
theorem Own.lt {w : World} {base : Nat} {v : Value} {l : List Int} (h : Own w base v l) : ∀ k, v.ownBlock = some k → base ≤ k ∧ k < w.heap.size := World.ownsRow.lt h
theorem Own.alloc {w : World} {base : Nat} {v : Value} {l : List Int} (h : Own w base v l) (o : Obj) : Own (w.alloc o) base v l := World.ownsRow.alloc h o
theorem Own.drewN {w : World} {base : Nat} {v : Value} {l : List Int} (h : Own w base v l) (n : Nat) : Own (w.drewN n) base v l := h
theorem Own.drew {w : World} {base : Nat} {v : Value} {l : List Int} (h : Own w base v l) : Own w.drew base v l := h
/-- What is owned stays owned while another slice grows. -/
theorem Own.kept {w w' : World} {base : Nat} {v u u' : Value} {l : List Int} (h : Own w base v l) (g : Grew w u w' u') (hne : v.ownBlock = none ∨ v.ownBlock ≠ u.ownBlock) : Own w' base v l :=
  World.ownsRow.kept h g.grown hne
/-- The slice that was appended to reads as it read. -/
theorem Own.kept_self {w w' : World} {base : Nat} {v v' : Value} {l : List Int} (h : Own w base v l) (g : Grew w v w' v') : Own w' base v l := by
  have hlen := h.len
  refine ⟨h.1, ?_⟩
  rcases h.2 with h0 | ⟨b, cap, cur, rfl, hb, hg, hn, hc, hs, ht⟩
  · exact .inl h0
  · obtain ⟨c1, a1, a2, a3⟩ := g.keep b cur rfl hg
    refine .inr ⟨b, cap, c1, rfl, hb, a1, hn, hc, by omega, ?_⟩
    rw [Nat.mul_one] at ht ⊢
    rw [hlen] at a3
    exact a3.trans ht
theorem Own.cell {w : World} {base g n cap : Nat} {l : List Int} (h : Own w base (.slice (some ⟨g, 0, none⟩) n cap) l) (j : Nat) (hj : j < l.length) : w.cell? ⟨g, j, none⟩ = some (.int .u8 (l.getD j 0)) := by
  have hn : n = l.length := h.len
  subst hn
  have := World.ownsRow.cellAt h j (by simpa using hj)
  rw [this]
  simp [bs, hj]
theorem Own.frozen {w : World} {base g n cap : Nat} {l : List Int} (h : Own w base (.slice (some ⟨g, 0, none⟩) n cap) l) (j : Nat) : w.frozen? ⟨g, j, none⟩ = false := by
  have hn : n = l.length := h.len
  subst hn
  exact World.ownsRow.frozenAt h j
theorem Own.mono {w : World} {base base' : Nat} {v : Value} {l : List Int} (h : Own w base v l) (hb : ∀ g, v.ownBlock = some g → base' ≤ g) : Own w base' v l := by
  refine ⟨h.1, ?_⟩
  rcases h.2 with h0 | ⟨g, cap, cur, rfl, _, r⟩
  · exact .inl h0
  · exact .inr ⟨g, cap, cur, rfl, hb g rfl, r⟩
theorem Own.nil (w : World) (base : Nat) : Own w base (.slice none 0 0) [] := World.ownsRow_nil w base 5 1

section
variable {P : Program} (hu : P.underlying 22 = some (.slice 5)) (hinfo : (P.info? 5).map (fun i => (i.zero, i.size, i.bytes)) = some (some (.int .u8 0), 1, 1))

/-- append onto a slice of the call's own. -/
theorem run_app (hu : P.underlying 22 = some (.slice 5)) (hinfo : (P.info? 5).map (fun i => (i.zero, i.size, i.bytes)) = some (some (.int .u8 0), 1, 1)) (w : World) (ty : TypeId) (base : Nat) (v : Value) (l : List Int) (hown : Own w base v l) (ad : Addr) (c : Nat) (news : List Int)
    (hnews : ∀ j, j < news.length → w.cell? (ad.add j) = some (.int .u8 (news.getD j 0))) (hlen : l.length + news.length ≤ 1099511627776) (hbase : base ≤ w.heap.size) :
    ∃ v' w', (Builtin.append_ #[22, 22] ty #[v, .slice (some ad) news.length c]).run P w = .ok v' w' ∧ Own w' base v' (l ++ news) ∧ Grew w v w' v' := by
  obtain ⟨i, hi, hz0, hz1, hz2⟩ := info_parts hinfo
  have hcells : ∀ j u, (bs news)[j]? = some u → w.cell? (ad.add j) = some u := by
    intro j u hj
    have hlt : j < news.length := by
      have := (List.getElem?_eq_some_iff.1 hj).1
      simpa [bs] using this
    rw [hnews j hlt]
    simp [bs, hlt] at hj ⊢
    exact hj
  obtain ⟨v', w', hr, ho, hg, hnil, hat⟩ := run_append_own_at (P := P) w base 22 ty 5 i (.int .u8 0) 1 1 hu hi hz0 hz1 hz2 rfl (by decide) v l.length (bs l) hown ad news.length c (bs news) (by simp [bs]) hcells
    (ints_oneCell .u8 news) (by unfold maxLen; omega) (by omega) hbase
  have ho' : Own w' base v' (l ++ news) := by
    unfold Own
    have e1 : (l ++ news).length = l.length + news.length := by simp
    have e2 : bs (l ++ news) = bs l ++ bs news := by simp [bs]
    rw [e1, e2]
    exact ho
  refine ⟨v', w', hr, ho', ⟨hg, ?_, ?_, ?_, ?_⟩⟩
  · rcases hat with h | h
    · exact .inl h
    · exact .inr fun g hgg => by rw [h] at hgg; cases hgg; exact Nat.le_refl _
  · rw [ho'.len, hown.len]; simp
  · intro hne hfit
    rcases hown.form with ⟨rfl, _⟩ | ⟨g, cap, rfl, hb, hlt, hnc, hcm⟩
    · exact absurd rfl hne
    · rw [ho'.len] at hfit
      obtain ⟨w2, hr2, _, _⟩ := run_append_fits (P := P) w base 22 ty 5 i 1 hu hi hz1 g l.length cap (bs l) hown ad news.length c (bs news) (by simp [bs]) hcells (ints_oneCell .u8 news) (by simpa [capOf] using hfit)
      rw [hr2] at hr
      cases hr
      exact ⟨rfl, rfl⟩
  · intro g cur hgg hcur
    have hown' := hown
    rcases hown.2 with ⟨rfl, _⟩ | ⟨g', cap, cur', rfl, hb, hg', hnc, hcm, hcs, htake⟩
    · cases hgg
    · cases hgg
      rw [hg'] at hcur
      cases hcur
      have hbl : (bs news).length = news.length := by simp [bs]
      by_cases hroom : l.length + news.length ≤ cap
      · have hr2 := run_append_room (P := P) w 22 ty 5 i hu hi g' l.length cap cur hg' ad news.length c (bs news) (by rw [hz1]; simp [bs]) hcells (ints_oneCell .u8 news) hroom (by rw [hz1, hbl]; omega)
        rw [hr2] at hr
        cases hr
        refine ⟨_, setRow_heap w g' cur _ 5 _ hg', ?_, ?_⟩
        · rw [hz1]; simp [hbl]; omega
        · rw [hz1]
          simp only [lenOf, Nat.mul_one, hbl]
          have hc2 : l.length ≤ cur.toList.length := by have hq : cur.toList.length = cur.size := Array.length_toList; omega
          have hc3 : (List.take l.length cur.toList).length = l.length := by rw [List.length_take]; omega
          show List.take l.length (List.take l.length cur.toList ++ bs news ++ List.drop (l.length + news.length) cur.toList) = _
          rw [List.append_assoc, List.take_append_of_le_length (Nat.le_of_eq hc3.symm), List.take_take, Nat.min_self]
      · have holds : ∀ j u, (bs l)[j]? = some u → w.cell? ((⟨g', 0, none⟩ : Addr).add j) = some u := World.ownsRow.cells hown' (g := g') rfl
        have hr2 := run_append_grow (P := P) w 22 ty 5 i (.int .u8 0) hu hi hz0 ⟨g', 0, none⟩ l.length cap (bs l) (by rw [hz1]; simp [bs]) holds ad news.length c (bs news) (by rw [hz1]; simp [bs]) hcells (by omega) (by omega) (growslice_fits (by omega) (by rw [hz2]; omega))
        rw [hr2] at hr
        cases hr
        refine ⟨cur, ?_, rfl, rfl⟩
        exact (Below.heap_alloc w.drew _ g' (Array.getElem?_eq_some_iff.1 hg').1).trans hg'

theorem wpList_app (hu : P.underlying 22 = some (.slice 5)) (hinfo : (P.info? 5).map (fun i => (i.zero, i.size, i.bytes)) = some (some (.int .u8 0), 1, 1)) {w : World} {ops : Array Oper} {rest : List Oper} {o : Oper} {a : Act} {Q : Exit → Act → World → Prop} (hgd : o.guard = none) (s x : Operand)
    (ho : o.op = .call { callee := .builtin .append, args := #[s, x], argTypes := #[22, 22] }) (base : Nat) (v : Value) (l : List Int) (hs : a.eval s = v) (hown : Own w base v l)
    (ad : Addr) (m c : Nat) (news : List Int) (hm : m = news.length) (hx : a.eval x = .slice (some ad) m c)
    (hnews : ∀ j, j < news.length → w.cell? (ad.add j) = some (.int .u8 (news.getD j 0))) (hlen : l.length + news.length ≤ 1099511627776) (hbase : base ≤ w.heap.size)
    (h : ∀ v' w', Own w' base v' (l ++ news) → Grew w v w' v' → wpList P ops Q rest (a.put o.dst v') w') : wpList P ops Q (o :: rest) a w := by
  subst hm
  refine wpList_plain hgd fun K hK => ?_
  obtain ⟨v', w', hr, h2, h3⟩ := run_app hu hinfo w o.type base v l hown ad c news hnews hlen hbase
  unfold Oper.wp execOp
  simp only [ho, resolve, invoke, builtin, Sem.run_bind, Sem.run_pure, Result.andThen_ok, List.map_toArray, List.map_cons, List.map_nil, hs, hx, hr]
  exact hK _ _ (h v' w' h2 h3)

/-- The same as one step of a region that draws its order. -/
theorem step_app (hu : P.underlying 22 = some (.slice 5)) (hinfo : (P.info? 5).map (fun i => (i.zero, i.size, i.bytes)) = some (some (.int .u8 0), 1, 1)) {w : World} {ops : Array Oper} {o : Oper} {a : Act} {K : Act → World → Prop} {Q : Exit → Act → World → Prop} {E : Prop} (hgd : o.guard = none) (s x : Operand)
    (ho : o.op = .call { callee := .builtin .append, args := #[s, x], argTypes := #[22, 22] }) (base : Nat) (v : Value) (l : List Int) (hs : a.eval s = v) (hown : Own w base v l)
    (ad : Addr) (m c : Nat) (news : List Int) (hm : m = news.length) (hx : a.eval x = .slice (some ad) m c)
    (hnews : ∀ j, j < news.length → w.cell? (ad.add j) = some (.int .u8 (news.getD j 0))) (hlen : l.length + news.length ≤ 1099511627776) (hbase : base ≤ w.heap.size)
    (h : ∀ v' w', Own w' base v' (l ++ news) → Grew w v w' v' → K (a.put o.dst v') w') :
    if Region.wanted o (yielded ops a.tmps) = true then Oper.wp P o a w K Q else E := by
  subst hm
  have hw : Region.wanted o (yielded ops a.tmps) = true := by simp [Region.wanted, hgd]
  rw [if_pos hw]
  obtain ⟨v', w', hr, h2, h3⟩ := run_app hu hinfo w o.type base v l hown ad c news hnews hlen hbase
  unfold Oper.wp execOp
  simp only [ho, resolve, invoke, builtin, Sem.run_bind, Sem.run_pure, Result.andThen_ok, List.map_toArray, List.map_cons, List.map_nil, hs, hx, hr]
  exact h v' w' h2 h3
end

/-- The cell of a block of one element that has just been laid. -/
theorem one_new (w : World) (x : Int) : ∀ j, j < [x].length → (w.alloc (.cells #[.int .u8 x] 5)).cell? ((⟨w.heap.size, 0, none⟩ : Addr).add j) = some (.int .u8 ([x].getD j 0)) := by
  intro j hj
  match j, hj with
  | 0, _ => simp [Addr.add]
  | j + 1, hj => simp at hj
theorem two_new (w : World) (x y : Int) : ∀ j, j < [x, y].length → (w.alloc (.cells #[.int .u8 x, .int .u8 y] 5)).cell? ((⟨w.heap.size, 0, none⟩ : Addr).add j) = some (.int .u8 ([x, y].getD j 0)) := by
  intro j hj
  match j, hj with
  | 0, _ => simp [Addr.add]
  | 1, _ => simp [Addr.add]
  | j + 2, hj => simp at hj; omega
end Go.Proofs.Qxb6600432a.Mem
