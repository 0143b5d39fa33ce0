/-
  A range over a map[string]string, nil or not, in one word.
-/
import Derived.Test.Qxb6001105aContains
namespace Go.Proofs.Qxb6001105a.Kube
open Go.RowKit Go.Maps Go.WideMaps

/-- A range over a map value under way: nothing to come of the nil map. -/
def RangeIs (w : World) (m : Option Nat) (r n : Nat) (D : DataW Unit) (left : Lit → Bool) (cnt : Nat) : Prop :=
  match m with
  | none => w.heap[r]? = some (.mapIter none 0 #[] 0) ∧ D = .map [] ∧ cnt = 0 ∧ ∀ kl, left kl = false
  | some b => w.ranges Try.prog 9 (plainElem Try.prog 9) b r n D left cnt

theorem run_next_nil {w : World} {r : Nat} (h : w.heap[r]? = some (.mapIter none 0 #[] 0)) (ty : TypeId) :
    (Instr.next (.pointer (some ⟨r, 0, none⟩)) false ty).run Try.prog w = .ok (.tuple #[.bool false]) w := by
  simp only [Instr.next, getObj, Sem.run_bind, Sem.run, h, Result.andThen]
  rfl

section
variable (w : World) {ops : Array Oper} {rest : List Oper} {o : Oper} {a : Act} {Q : Exit → Act → World → Prop}

/-- 'range m'. -/
theorem wpList_range_is (hg : o.guard = none) (m : Operand) (hop : o.op = Op.range 26 m) (mv : Option Nat) (n : Nat) (D : DataW Unit)
    (hm : a.eval m = .map mv) (hmap : MapIs w mv n D)
    (hK : ∀ w' left cnt, RangeIs w' mv w.heap.size n D left cnt → (∀ kl, Maps.has D kl = true → left kl = true) → w.grownBy w' none → wpList Try.prog ops Q rest (a.put o.dst (.pointer (some ⟨w.heap.size, 0, none⟩))) w') :
    wpList Try.prog ops Q (o :: rest) a w := by
  cases mv with
  | none =>
    have hD : D = .map [] := hmap
    refine wpList_plain hg fun K' hK' => ?_
    unfold Oper.wp
    simp [execOp, hop, hm, run_range_nilMap (P := Try.prog) w 26 9 9 Try.underlying26, Result.andThen]
    exact hK' _ _ (hK _ (fun _ => false) 0 ⟨(MapKept.heap_alloc w _).1, hD, rfl, fun _ => rfl⟩ (fun kl h => by rw [hD] at h; simp [Maps.has] at h) (World.grownBy_alloc w _ none))
  | some b =>
    exact wpList_range_own w hg m 26 hop 9 9 law9 Try.underlying26 (plainElem Try.prog 9) b n D hm hmap fun w' h1 h2 _ => hK w' _ _ h1 (fun kl h => h) h2

/-- THE RANGE's STEP. -/
theorem wpList_next_is (hg : o.guard = none) (it : Operand) (hop : o.op = Op.next it false)
    (mv : Option Nat) (r n : Nat) (D : DataW Unit) (left : Lit → Bool) (cnt : Nat) (hit : a.eval it = .pointer (some ⟨r, 0, none⟩)) (h : RangeIs w mv r n D left cnt)
    (hDone : (∀ kl, left kl = false) → wpList Try.prog ops Q rest (a.put o.dst (.tuple #[.bool false])) w)
    (hMore : ∀ (x c : ByteArray) (w' : World) (cnt' : Nat), x.size ≤ maxLen → left (.string x.data.toList) = true → (∀ zd, D.atKey (.string x.data.toList) zd = .lit (.string c.data.toList)) →
      RangeIs w' mv r n D (fun z => left z && !z.sameKey (.string x.data.toList)) cnt' → w'.rangeLeft (mv.getD 0) r < w.rangeLeft (mv.getD 0) r →
      w.grownBy w' (some r) → (Instr.entry (.pointer (some ⟨r, 0, none⟩))).run Try.prog w' = .ok (.tuple #[.string x, .string c]) w' → wpList Try.prog ops Q rest (a.put o.dst (.tuple #[.bool true, .string x, .string c])) w') :
    wpList Try.prog ops Q (o :: rest) a w := by
  cases mv with
  | none =>
    obtain ⟨h1, _, _, h4⟩ := h
    refine wpList_plain hg fun K' hK' => ?_
    unfold Oper.wp
    simp [execOp, hop, hit, run_next_nil h1, Result.andThen]
    exact hK' _ _ (hDone h4)
  | some b =>
    have hr : w.ranges Try.prog 9 (plainElem Try.prog 9) b r n D left cnt := h
    exact wpList_next_ss w hg it hop b r n D left cnt hit hr (fun _ hl => hDone hl)
      (fun x c w' cnt' h1 h2 h3 h4 h5 h6 _ h8 => hMore x c w' cnt' h1 h2 h3 h4 (by show w'.rangeLeft b r < w.rangeLeft b r; rw [h4.left_eq, hr.left_eq]; exact h5) h6 h8)

end

end Go.Proofs.Qxb6001105a.Kube
