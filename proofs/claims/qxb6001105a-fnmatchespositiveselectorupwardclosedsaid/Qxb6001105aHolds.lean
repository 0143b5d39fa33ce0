/-
  holds, ZZholds: 'held gives every key of data data's value'.
-/
import Derived.Test.Qxb6001105aMaps
namespace Go.Proofs.Qxb6001105a.Kube
open Go.RowKit Go.Maps Go.WideMaps

/-- Where the key is there the default plays no part. -/
theorem atKey_of_has {D : DataW Unit} {k : Lit} (h : Maps.has D k = true) (z z' : DataW Unit) : D.atKey k z = D.atKey k z' := by
  cases D <;> try (cases h; done)
  rename_i es
  obtain ⟨p, hp, hpk⟩ := List.any_eq_true.1 h
  have hs : (es.find? (fun p => p.1.sameKey k)).isSome = true := List.find?_isSome.2 ⟨p, hp, hpk⟩
  obtain ⟨x, hx⟩ := Option.isSome_iff_exists.1 hs
  simp [DataW.atKey, hx]

theorem bytes_eq {a b : ByteArray} (h : a.data.toList = b.data.toList) : a = b := by
  cases a; cases b
  simp only at h
  rw [Array.toList_inj.1 h]

theorem toList_eq_iff {a b : ByteArray} : (a.toList == b.toList) = true ↔ a = b := by
  constructor
  · intro h
    exact bytes_eq (by rw [← ByteArray.toList_eq, ← ByteArray.toList_eq]; exact eq_of_beq h)
  · rintro rfl
    exact beq_self_eq_true _

theorem at_yes {Dh Dd : DataW Unit} {kl : Lit} {c : ByteArray} (hh : Maps.has Dh kl = true) (hv : Dh.atKey kl (.lit (.string [])) = .lit (.string c.data.toList))
    (hd : ∀ z, Dd.atKey kl z = .lit (.string c.data.toList)) : At Dh Dd kl :=
  ⟨hh, fun z => by rw [atKey_of_has hh z (.lit (.string [])), hv, hd]⟩

theorem at_no {Dh Dd : DataW Unit} {kl : Lit} {c v : ByteArray} (hv : Dh.atKey kl (.lit (.string [])) = .lit (.string v.data.toList))
    (hd : ∀ z, Dd.atKey kl z = .lit (.string c.data.toList)) (hne : v ≠ c) : ¬ At Dh Dd kl := by
  intro h
  have h1 := h.2 (.lit (.string []))
  rw [hv, hd] at h1
  exact hne (bytes_eq (by injection h1 with h1; injection h1))

/-- The relation's step: one more key has been seen to agree. -/
theorem seen_step {Dh Dd : DataW Unit} {left : Lit → Bool} {k : Lit} (hs : ∀ kl, Maps.has Dd kl = true → left kl = false → At Dh Dd kl) (hk : At Dh Dd k) :
    ∀ kl, Maps.has Dd kl = true → (left kl && !kl.sameKey k) = false → At Dh Dd kl := by
  intro kl h1 h2
  cases hl : left kl
  · exact hs kl h1 hl
  · rw [hl] at h2
    have : kl.sameKey k = true := by simpa using h2
    rw [WideAt.sameKey_eq this]
    exact hk

theorem holds_nil (m : Option Nat) (w : World) :
    Calls Try.prog 27 #[.map m, .map none] w fun e w' => e = .returned (.bool true) ∧ Below w.heap.size w w' := by
  have hrg := run_range_nilMap (P := Try.prog) w 26 9 9 Try.underlying26
  have hnx : ∀ ty, (Instr.next (.pointer (some ⟨w.heap.size, 0, none⟩)) false ty).run Try.prog (w.alloc (.mapIter none 0 #[] 0)) = _ := fun ty => run_next_nilMap _ ty 0 0 #[]
  go_enter Try.func27, Try.ntmps27
  go_wp2
  refine wp_loop_rounds 1 ?_
  rw [rounds_succ]
  go_wp2
  go_ret
  exact ⟨rfl, (Below.refl _ _).alloc (Nat.le_refl _) _⟩

set_option maxHeartbeats 1000000 in
theorem holds_some (m : Option Nat) (n : Nat) (Dh : DataW Unit) (b nd : Nat) (Dd : DataW Unit) (w : World) (hh : MapIs w m n Dh) (hd : w.ownsMap Try.prog 9 (plainElem Try.prog 9) b nd Dd) :
    Calls Try.prog 27 #[.map m, .map (some b)] w fun e w' => SubRet Dh Dd e ∧ Below w.heap.size w w' := by
  go_enter Try.func27, Try.ntmps27
  go_wp2_with (first
    | (at_range; refine wpList_range_own _ rfl _ 26 rfl 9 9 law9 Try.underlying26 _ b nd _ rfl hd ?_; intro w0 hrg0 hg0 hs0)
    | go_in)
  go_frame
  go_loopw [5] (fun _ wr => ∃ (left : Lit → Bool) (cnt : Nat), wr.ranges Try.prog 9 (plainElem Try.prog 9) b w.heap.size nd Dd left cnt ∧ (∀ kl, Maps.has Dd kl = true → left kl = false → At Dh Dd kl) ∧ Below w.heap.size w wr)
    (fun _ wr => wr.rangeLeft b w.heap.size)
  case atStart =>
    exact ⟨_, _, hrg0, (fun kl h1 h2 => by rw [h1] at h2; cases h2), (Below.refl _ _).grown hg0 (Nat.le_refl _) (fun j hj => by cases hj)⟩
  case round =>
    obtain ⟨left, cnt, hrg, hseen, hnx⟩ := hrel
    have Hseen : Hid (∀ kl, Maps.has Dd kl = true → left kl = false → At Dh Dd kl) := hseen
    clear hseen
    go_wp2_with (first
      | (at_next; refine wpList_next_ss _ rfl _ rfl b w.heap.size nd _ _ _ rfl hrg ?_ ?_)
      | go_in)
    · intro hc0 hl0
      have Hl0 : Hid (∀ kl, left kl = false) := hl0
      clear hl0
      go_wp2
      go_ret
      exact ⟨⟨true, rfl, by simp; exact fun kl hk => Hseen.out kl hk (Hl0.out kl)⟩, hnx⟩
    · intro x c w1 cnt1 hwx hlx hat hrg1 hlt hg1 hs1 hen
      have hnx1 : Below w.heap.size w w1 := hnx.grown hg1 hnx.size (fun j hj => by cases hj; exact Nat.le_refl _)
      have hh1 := hh.later hnx1
      go_wp2_with (first
        | (at_lookup; refine wpList_lookup_is _ rfl _ _ rfl m n Dh rfl hh1 _ rfl hwx ?_; intro v hv)
        | go_in)
      · have hne : (!v.toList == c.toList) = true := by assumption
        have hne' : v ≠ c := fun e => by rw [toList_eq_iff.2 e] at hne; cases hne
        go_ret
        exact ⟨⟨false, rfl, by simp; exact fun hs => at_no hv hat hne' (hs _ (has_true_of_atKey hat))⟩, hnx1⟩
      · have hyes : Maps.has Dh (.string x.data.toList) = true := by assumption
        have hne : (!v.toList == c.toList) = false := by assumption
        have heq : v = c := toList_eq_iff.1 (by simpa using hne)
        go_roundw
        case rel => exact ⟨_, _, hrg1, seen_step Hseen.out (at_yes hyes (heq ▸ hv) hat), hnx1⟩
        case measure => rw [hrg1.left_eq, hrg.left_eq]; exact hlt
      · have hno : ¬ Maps.has Dh (.string x.data.toList) = true := by assumption
        go_ret
        exact ⟨⟨false, rfl, by simp; exact fun hs => hno (hs _ (has_true_of_atKey hat)).1⟩, hnx1⟩

theorem sub_refl (D : DataW Unit) : Sub D D := fun _ h => ⟨h, fun _ => rfl⟩

theorem MapIs.canon {w : World} {m : Option Nat} {n : Nat} {D : DataW Unit} (h : MapIs w m n D) : Canon D := by
  cases m with
  | none =>
    have hD : D = .map [] := h
    subst hD
    exact ⟨[], rfl, List.Pairwise.nil, fun p hp => by simp at hp⟩
  | some b => exact World.ownsMap.canon h law9

/-- Two maps that hold each other are one. -/
theorem sub_antisymm {w w' : World} {m m' : Option Nat} {n n' : Nat} {D D' : DataW Unit} (h : MapIs w m n D) (h' : MapIs w' m' n' D') (s : Sub D D') (s' : Sub D' D) : D = D' :=
  ext h.canon h'.canon (fun k => by
    cases hk : Maps.has D k
    · cases hk' : Maps.has D' k
      · rfl
      · rw [(s k hk').1] at hk; cases hk
    · rw [(s' k hk).1]) (fun k z hk => ((s' k hk).2 z).symm)

/-- 'len(m)' on a map[string]string, nil or not. -/
theorem wpList_len_is (w : World) {ops : Array Oper} {rest : List Oper} {o : Oper} {a : Act} {Q : Exit → Act → World → Prop}
    (hg : o.guard = none) (m : Operand) (hop : o.op = Op.call { callee := Callee.builtin Builtin.len, args := #[m], argTypes := #[26] })
    (mv : Option Nat) (n : Nat) (D : DataW Unit) (hm : a.eval m = .map mv) (hmap : MapIs w mv n D)
    (hK : wpList Try.prog ops Q rest (a.put o.dst (.int .i64 (Maps.size D))) w) :
    wpList Try.prog ops Q (o :: rest) a w := by
  have hrun : ∀ ty, (Builtin.len_ #[26] ty #[.map mv]).run Try.prog w = .ok (.int .i64 (Maps.size D)) w := fun ty => by
    cases mv with
    | none =>
      have hD : D = .map [] := hmap
      subst hD
      exact Maps.len_nil Try.underlying26 ty
    | some b => exact World.ownsMap.len hmap Try.underlying26 ty
  refine wpList_plain hg fun K' hK' => ?_
  unfold Oper.wp
  simp [execOp, hop, resolve, invoke, builtin, hm, hrun o.type, Result.andThen]
  exact hK' _ _ hK

theorem sub_nil (Dh : DataW Unit) : Sub Dh (.map []) := fun kl h => by simp [Maps.has] at h

/-- holds, whatever the maps. -/
theorem holds_any (m : Option Nat) (n : Nat) (Dh : DataW Unit) (md : Option Nat) (nd : Nat) (Dd : DataW Unit) (w : World) (hh : MapIs w m n Dh) (hd : MapIs w md nd Dd) :
    Calls Try.prog 27 #[.map m, .map md] w fun e w' => SubRet Dh Dd e ∧ Below w.heap.size w w' := by
  cases md with
  | none =>
    have hD : Dd = .map [] := hd
    subst hD
    exact (holds_nil m w).mono fun e w' ⟨he, hb⟩ => ⟨⟨true, he, by simp; exact sub_nil Dh⟩, hb⟩
  | some b => exact holds_some m n Dh b nd Dd w hh hd

/-- ZZholds, likewise. -/
theorem zzholds_any (m : Option Nat) (n : Nat) (Dh : DataW Unit) (md : Option Nat) (nd : Nat) (Dd : DataW Unit) (w : World) (hh : MapIs w m n Dh) (hd : MapIs w md nd Dd) :
    Calls Try.prog 15 #[.map m, .map md] w fun e w' => SubRet Dh Dd e ∧ Below w.heap.size w w' := by
  go_enter Try.func15, Try.ntmps15
  go_wp2_with fail
  refine (holds_any m n Dh md nd Dd w hh hd).mono ?_
  rintro e w' ⟨⟨r, rfl, hr⟩, hb⟩
  go_wp2
  go_ret
  exact ⟨⟨r, rfl, hr⟩, hb⟩

end Go.Proofs.Qxb6001105a.Kube
