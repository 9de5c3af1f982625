/-
  'for k, v := range m', 'len(m)' on a map that is nil or of the call's own.
-/
import Derived.Test.Qxb6600432aMaps
import Derived.Laws.IdiomRangeMap
namespace Go.Proofs.Qxb6600432a.Maps
open Go.RowKit Go.Maps
open Go.Proofs.Qxb6600432a.Mem Go.Proofs.Qxb6600432a.Top Go.Proofs.Qxb6600432a.Str
set_option linter.unusedVariables false
set_option linter.unusedSimpArgs false

def RangesAt (w : World) (mv : Value) (r : Nat) (D : DataW Unit) (left : Lit → Bool) (cnt : Nat) : Prop :=
  (mv = .map none ∧ D = .map [] ∧ (∃ since seen c0, w.heap[r]? = some (.mapIter none since seen c0)) ∧ (∀ kl, left kl = false) ∧ cnt = 0) ∨
  ∃ b n, mv = .map (some b) ∧ w.ranges Try.prog 9 PE b r n D left cnt ∧ n ≤ 1048576

def leftAt (w : World) (mv : Value) (r : Nat) : Nat :=
  match mv with
  | .map (some b) => w.rangeLeft b r
  | _ => 0

theorem RangesAt.left_eq {w : World} {mv : Value} {r : Nat} {D : DataW Unit} {left : Lit → Bool} {cnt : Nat} (h : RangesAt w mv r D left cnt) : leftAt w mv r = cnt := by
  rcases h with ⟨rfl, _, _, _, rfl⟩ | ⟨b, n, rfl, h, _⟩
  · rfl
  · exact h.left_eq

theorem RangesAt.owns {w : World} {mv : Value} {r : Nat} {D : DataW Unit} {left : Lit → Bool} {cnt : Nat} (h : RangesAt w mv r D left cnt) : MapAt w mv D := by
  rcases h with ⟨rfl, rfl, _⟩ | ⟨b, n, rfl, h, hn⟩
  · exact .inl ⟨rfl, rfl⟩
  · exact .inr ⟨b, n, rfl, h.owns, hn⟩

theorem RangesAt.lt {w : World} {mv : Value} {r : Nat} {D : DataW Unit} {left : Lit → Bool} {cnt : Nat} (h : RangesAt w mv r D left cnt) : r < w.heap.size := by
  rcases h with ⟨_, _, ⟨_, _, _, h⟩, _⟩ | ⟨b, n, rfl, h, _⟩
  · exact (Array.getElem?_eq_some_iff.1 h).1
  · exact h.lt

theorem RangesAt.kept {w w' : World} {row : Option Nat} {mv : Value} {r : Nat} {D : DataW Unit} {left : Lit → Bool} {cnt : Nat} (h : RangesAt w mv r D left cnt) (hg : w.grownBy w' row) (hb : ∀ b, mv = .map (some b) → some b ≠ row) (hr : some r ≠ row) : RangesAt w' mv r D left cnt := by
  have hlt := h.lt
  rcases h with ⟨rfl, rfl, ⟨a, b, c, h⟩, h1, h2⟩ | ⟨b, n, rfl, h, hn⟩
  · exact .inl ⟨rfl, rfl, ⟨a, b, c, (hg.block r hlt hr).trans h⟩, h1, h2⟩
  · exact .inr ⟨b, n, rfl, h.kept hg (hb b rfl) hr, hn⟩

theorem MapAt.kept {w w' : World} {row : Option Nat} {mv : Value} {D : DataW Unit} (h : MapAt w mv D) (hg : w.grownBy w' row) (hb : ∀ b, mv = .map (some b) → some b ≠ row) : MapAt w' mv D := by
  rcases h with h | ⟨b, n, rfl, ho, hn⟩
  · exact .inl h
  · exact .inr ⟨b, n, rfl, ho.kept hg (hb b rfl), hn⟩
theorem MapAt.lt {w : World} {mv : Value} {D : DataW Unit} (h : MapAt w mv D) : ∀ b, mv = .map (some b) → b < w.heap.size := by
  intro b e
  rcases h with ⟨rfl, _⟩ | ⟨b', n, rfl, ho, hn⟩
  · cases e
  · cases e; exact ho.lt
theorem MapAt.size {w : World} {mv : Value} {D : DataW Unit} (h : MapAt w mv D) : Maps.size D ≤ 1048576 := by
  rcases h with ⟨_, rfl⟩ | ⟨b', n, rfl, ho, hn⟩
  · exact Nat.zero_le _
  · exact Nat.le_trans ho.size_le hn

section
variable {w : World} {ops : Array Oper} {rest : List Oper} {o : Oper} {a : Act} {Q : Exit → Act → World → Prop}

theorem wpList_lenAt (hg : o.guard = none) (m : Operand) (hop : o.op = Op.call { callee := Callee.builtin Builtin.len, args := #[m], argTypes := #[38] }) (mv : Value) (D : DataW Unit) (hm : a.eval m = mv) (h : MapAt w mv D)
    (hK : wpList Try.prog ops Q rest (a.put o.dst (.int .i64 (Maps.size D))) w) : wpList Try.prog ops Q (o :: rest) a w := by
  refine wpList_plain hg fun K' hK' => ?_
  have hrun : (Builtin.len_ #[38] o.type #[mv]).run Try.prog w = .ok (.int .i64 (Maps.size D)) w := by
    rcases h with ⟨rfl, rfl⟩ | ⟨b, n, rfl, ho, hn⟩
    · exact Maps.len_nil Try.underlying38 o.type
    · exact ho.len Try.underlying38 o.type
  unfold Oper.wp
  simp [execOp, hop, resolve, invoke, builtin, hm, hrun, Result.andThen]
  exact hK' _ _ hK

theorem wpList_rangeAt (hg : o.guard = none) (m : Operand) (hop : o.op = Op.range 38 m) (mv : Value) (D : DataW Unit) (hm : a.eval m = mv) (h : MapAt w mv D)
    (hK : ∀ w', RangesAt w' mv w.heap.size D (Maps.has D) (Maps.size D) → w.grownBy w' none → wpList Try.prog ops Q rest (a.put o.dst (.pointer (some ⟨w.heap.size, 0, none⟩))) w') : wpList Try.prog ops Q (o :: rest) a w := by
  rcases h with ⟨rfl, rfl⟩ | ⟨b, n, rfl, ho, hn⟩
  · refine wpList_plain hg fun K' hK' => ?_
    have hrun := run_range_nilMap (P := Try.prog) w 38 9 9 Try.underlying38
    unfold Oper.wp
    simp [execOp, hop, hm, hrun, Result.andThen]
    exact hK' _ _ (hK _ (.inl ⟨rfl, rfl, ⟨0, #[], 0, heap_alloc_new _ _⟩, fun _ => rfl, rfl⟩) (World.grownBy_alloc _ _ _))
  · exact wpList_range_own w hg m 38 hop 9 9 law9 Try.underlying38 PE b n D hm ho fun w' h1 h2 _ => hK w' (.inr ⟨b, n, rfl, h1, hn⟩) h2

theorem run_next_nilAt (w : World) (r : Nat) (ty : TypeId) (x y : Nat) (s : Array Nat) (h : w.heap[r]? = some (.mapIter none x s y)) :
    (Instr.next (.pointer (some ⟨r, 0, none⟩)) false ty).run Try.prog w = .ok (.tuple #[.bool false]) w := by
  simp only [Instr.next, getObj, Sem.run_bind, Sem.run, h, Result.andThen]
  rfl

theorem wpList_nextAt (hg : o.guard = none) (it : Operand) (hop : o.op = Op.next it false) (mv : Value) (r : Nat) (D : DataW Unit) (left : Lit → Bool) (cnt : Nat) (hit : a.eval it = .pointer (some ⟨r, 0, none⟩)) (h : RangesAt w mv r D left cnt)
    (hDone : (∀ kl, left kl = false) → wpList Try.prog ops Q rest (a.put o.dst (.tuple #[.bool false])) w)
    (hMore : ∀ (x c : List UInt8) (w' : World) (cnt' : Nat), x.length ≤ maxLen → c.length ≤ maxLen → left (.string x) = true → (∀ zd, D.atKey (.string x) zd = .lit (.string c)) → RangesAt w' mv r D (fun z => left z && !z.sameKey (.string x)) cnt' → cnt' < cnt → w.grownBy w' (some r) →
      (Instr.entry (.pointer (some ⟨r, 0, none⟩))).run Try.prog w' = .ok (.tuple #[.string (str x), .string (str c)]) w' → wpList Try.prog ops Q rest (a.put o.dst (.tuple #[.bool true, .string (str x), .string (str c)])) w') :
    wpList Try.prog ops Q (o :: rest) a w := by
  rcases h with ⟨rfl, rfl, ⟨x, s, y, hb⟩, hl, rfl⟩ | ⟨b, n, rfl, hr, hn⟩
  · refine wpList_plain hg fun K' hK' => ?_
    have hrun := run_next_nilAt w r o.type x y s hb
    unfold Oper.wp
    simp [execOp, hop, hit, hrun, Result.andThen]
    exact hK' _ _ (hDone hl)
  · refine wpList_next_ranges w hg it hop 9 law9 PE (fun x : List UInt8 => Value.string (str x)) (fun x : List UInt8 => Value.string (str x)) (fun key kl hk => ?_) (fun v y hv => ?_) b r n D left cnt hit hr (fun _ hl => hDone hl) ?_
    · obtain ⟨x, hx, _⟩ := Maps.keyOf_str Try.underlying9 hk; exact ⟨x, hx⟩
    · obtain ⟨c, hc, _⟩ := elem9_inv hv; exact ⟨c, hc⟩
    · intro x c kl y w' cnt' hkey hlk hv hat hrg hlt hgr hsz hen
      obtain ⟨x', ex, rfl, hxl⟩ := Maps.keyOf_str Try.underlying9 hkey
      obtain rfl : x = x' := encStr_inj ex
      obtain ⟨c', ec, rfl, hcl⟩ := elem9_inv hv
      obtain rfl : c = c' := encStr_inj ec
      exact hMore x c w' cnt' hxl hcl hlk hat (.inr ⟨b, n, rfl, hrg, hn⟩) hlt hgr hen
end
end Go.Proofs.Qxb6600432a.Maps
