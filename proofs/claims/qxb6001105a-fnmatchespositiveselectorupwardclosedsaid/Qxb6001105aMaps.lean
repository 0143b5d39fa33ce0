/-
  THE LAWS AT THE OPERATIONS FOR A map[string]string: the look-up with 'ok' (nil or not), the range's step; 'Sub': one map holds all that another holds.
-/
import Derived.Test.Qxb6001105aMk
namespace Go.Proofs.Qxb6001105a.Kube
open Go.RowKit Go.Maps Go.WideMaps
open Go.ChangeMaps Go.MapKept

theorem zero9 (w : World) : (zeroValue 9).run Try.prog w = .ok (.string ByteArray.empty) w := by kernel_rfl

theorem look_is {w : World} {m : Option Nat} {n : Nat} {D : DataW Unit} (h : MapIs w m n D) {s : ByteArray} (hs : s.size ≤ maxLen) :
    ∃ v : ByteArray, (Instr.lookup 26 (.map m) (.string s) true).run Try.prog w = .ok (.tuple #[.string v, .bool (Maps.has D (.string s.data.toList))]) w ∧ D.atKey (.string s.data.toList) (.lit (.string [])) = .lit (.string v.data.toList) := by
  cases m with
  | none =>
    have hD : D = .map [] := h
    subst hD
    refine ⟨ByteArray.empty, ?_, rfl⟩
    rw [Maps.look_nil (P := Try.prog) (t := 26) (e := 9) true law9 Try.underlying26 (zero9 w) (keyOf_string_mk Try.underlying9 hs)]
    rfl
  | some b =>
    have hown : w.ownsMap Try.prog 9 (plainElem Try.prog 9) b n D := h
    obtain ⟨v, ps, hrun, hv⟩ := hown.look_ok law9 Try.underlying26 (zero9 w) (plainElem_string (s := ByteArray.empty) Try.underlying9 (Nat.zero_le _)) (keyOf_string_mk Try.underlying9 hs)
    obtain ⟨c, rfl, hc, _⟩ := plainElem_string_inv Try.underlying9 hv
    exact ⟨c, hrun, congrArg Prod.fst hc⟩

section
variable (w : World) {ops : Array Oper} {rest : List Oper} {o : Oper} {a : Act} {Q : Exit → Act → World → Prop}

/-- 'v, ok := m[k]' on a map[string]string, nil or not. -/
theorem wpList_lookup_is (hg : o.guard = none) (m x : Operand) (hop : o.op = Op.lookup 26 m x true) (mv : Option Nat) (n : Nat) (D : DataW Unit)
    (hm : a.eval m = .map mv) (hmap : MapIs w mv n D) (s : ByteArray) (hx : a.eval x = .string s) (hs : s.size ≤ maxLen)
    (hK : ∀ v : ByteArray, D.atKey (.string s.data.toList) (.lit (.string [])) = .lit (.string v.data.toList) → wpList Try.prog ops Q rest (a.put o.dst (.tuple #[.string v, .bool (Maps.has D (.string s.data.toList))])) w) :
    wpList Try.prog ops Q (o :: rest) a w := by
  refine wpList_plain hg fun K' hK' => ?_
  obtain ⟨v, hrun, hv⟩ := look_is hmap hs
  unfold Oper.wp
  simp [execOp, hop, hm, hx, hrun, Result.andThen]
  exact hK' _ _ (hK v hv)

/-- THE RANGE's STEP, string keys, string elements. -/
theorem wpList_next_ss (hg : o.guard = none) (it : Operand) (hop : o.op = Op.next it false)
    (b r n : Nat) (D : DataW Unit) (left : Lit → Bool) (cnt : Nat) (hit : a.eval it = .pointer (some ⟨r, 0, none⟩)) (h : w.ranges Try.prog 9 (plainElem Try.prog 9) b r n D left cnt)
    (hDone : cnt = 0 → (∀ kl, left kl = false) → wpList Try.prog ops Q rest (a.put o.dst (.tuple #[.bool false])) w)
    (hMore : ∀ (x c : ByteArray) (w' : World) (cnt' : Nat), x.size ≤ maxLen → left (.string x.data.toList) = true → (∀ zd, D.atKey (.string x.data.toList) zd = .lit (.string c.data.toList)) →
      w'.ranges Try.prog 9 (plainElem Try.prog 9) b r n D (fun z => left z && !z.sameKey (.string x.data.toList)) cnt' → cnt' < cnt →
      w.grownBy w' (some r) → w'.heap.size = w.heap.size → (Instr.entry (.pointer (some ⟨r, 0, none⟩))).run Try.prog w' = .ok (.tuple #[.string x, .string c]) w' → wpList Try.prog ops Q rest (a.put o.dst (.tuple #[.bool true, .string x, .string c])) w') :
    wpList Try.prog ops Q (o :: rest) a w :=
  wpList_next_ranges w hg it hop 9 law9 (plainElem Try.prog 9) Value.string Value.string (fun key kl hkey => by obtain ⟨x, rfl, _⟩ := string_of_keyOf Try.underlying9 hkey; exact ⟨x, rfl⟩) (fun v y hv => by obtain ⟨c, rfl, _⟩ := plainElem_string_inv Try.underlying9 hv; exact ⟨c, rfl⟩)
    b r n D left cnt hit h hDone (fun x c kl y w' cnt' hkey hlk hv hat hrg hlt hgr hsz hen => by
      obtain ⟨x', ex, rfl, hwx⟩ := string_of_keyOf Try.underlying9 hkey
      cases ex
      obtain ⟨c', ec, rfl, hwc⟩ := plainElem_string_inv Try.underlying9 hv
      cases ec
      exact hMore x c w' cnt' hwx hlk hat hrg hlt hgr hsz hen)
end

/-- At the key kl the one map holds what the other holds. -/
def At (Dh Dd : DataW Unit) (kl : Lit) : Prop := Maps.has Dh kl = true ∧ ∀ z, Dh.atKey kl z = Dd.atKey kl z
/-- Dh holds all that Dd holds. -/
def Sub (Dh Dd : DataW Unit) : Prop := ∀ kl, Maps.has Dd kl = true → At Dh Dd kl
/-- The call has returned a bool that says whether Dh holds all that Dd holds. -/
def SubRet (Dh Dd : DataW Unit) (e : Ending) : Prop := ∃ r : Bool, e = .returned (.bool r) ∧ (r = true ↔ Sub Dh Dd)

end Go.Proofs.Qxb6001105a.Kube
