/-
  cloneS: a slice of strings is copied into a new row; nil stays nil.
-/
import Derived.Test.Qxb6001105aBase
namespace Go.Proofs.Qxb6001105a.Kube
open Go.RowKit Go.Maps

theorem info9 : (Try.prog.info? 9).map (fun i => (i.zero, i.size, i.bytes)) = some (some (.string ByteArray.empty), 1, 16) := by kernel_rfl

theorem clone_nil (w : World) :
    Calls Try.prog 12 #[.slice none 0 0] w fun e w' => e = .returned (.slice none 0 0) ∧ w' = w := by
  have heq := fun w => Lib.run_eql_slice_nil (P := Try.prog) w 22 9 none 0 0 0 0 Try.underlying22
  go_enter Try.func12, Try.ntmps12
  go_wp2
  go_ret
  exact ⟨rfl, rfl⟩

set_option maxHeartbeats 400000 in
theorem clone_some (x : Addr) (n cap : Nat) (ss : List ByteArray) (w : World) (h : SRow w (some x) n cap ss) (hn : n ≤ 65536) :
    Calls Try.prog 12 #[.slice (some x) n cap] w fun e w' => e = .returned (.slice (some ⟨w.heap.size, 0, none⟩) n n) ∧ SRow w' (some ⟨w.heap.size, 0, none⟩) n n ss ∧ Below w.heap.size w w' := by
  have heq := fun w => Lib.run_eql_slice_nil (P := Try.prog) w 22 9 (some x) n cap 0 0 Try.underlying22
  obtain ⟨i0, hi, hz0, hz1, hz2⟩ := info_parts info9
  go_enter Try.func12, Try.ntmps12
  go_wp2_with (first
    | (at_make; refine wpList_make_full _ rfl _ _ 22 rfl w.heap.size 9 i0 (.string ByteArray.empty) 1 Try.underlying22 hi hz0 hz1 .i64 .i64 _ _ n rfl rfl rfl rfl (by rw [hz2]; omega) (by unfold maxLen; omega) (Nat.le_refl _) ?_; intro w1 hown1 hgrow1)
    | go_in)
  have hB1 : Below w.heap.size w w1 := (Below.refl _ _).grown hgrow1 (Nat.le_refl _) (fun j hj => by cases hj)
  go_loopw [4] (fun i wr => ∃ (k : Nat) (xs : List Value), k ≤ n ∧ i = .int .i64 k ∧ wr.ownsRow w.heap.size 9 1 (.slice (some ⟨w.heap.size, 0, none⟩) n n) n xs ∧ (∀ j, j < k → xs[j]? = some (.string (ss.getD j ByteArray.empty))) ∧ Below w.heap.size w wr)
    (fun i _ => n - (intOf i).toNat)
  case atStart => exact ⟨0, _, Nat.zero_le _, rfl, hown1, fun j hj => by omega, hB1⟩
  case round =>
    obtain ⟨k, xs, hk, rfl, hown, hxs, hnx⟩ := hrel
    clear hown1 hgrow1 hB1
    by_cases hlt : k < n
    · obtain ⟨b, off, hx, hc⟩ := h.cell (by omega)
      obtain rfl := Option.some.inj hx
      have hck := (hnx.cell (p := ⟨b, off + k, none⟩) (cell_lt (hc k hlt))).trans (hc k hlt)
      have hxl : k < xs.length := by have := hown.1; omega
      have hdst := hown.cellAt k (by omega)
      rw [List.getElem?_eq_getElem hxl] at hdst
      have hfr := hown.frozenAt k
      clear hx hc heq
      obtain ⟨hst, hgr⟩ := hown.stored k (.string (ss.getD k ByteArray.empty))
      have hnx2 := hnx.grown hgr hnx.size (fun j hj => by cases hj; exact Nat.le_refl _)
      go_wp2
      go_roundw
      case rel =>
        refine ⟨k + 1, _, by omega, by go_num, hst, fun j hj => ?_, hnx2⟩
        by_cases e : j = k
        · subst e
          rw [List.getElem?_set_self hxl]
        · rw [List.getElem?_set_ne (fun e' => e e'.symm)]
          exact hxs j (by omega)
      case measure => simp [intOf]; omega
    · obtain rfl : k = n := by omega
      go_wp2
      go_ret
      refine ⟨rfl, ⟨h.len, h.le, (fun e => by cases e), fun hp => ⟨_, _, rfl, fun i hi => ?_⟩, h.sz⟩, hnx⟩
      have := hown.cellAt i (by omega)
      rw [hxs i hi] at this
      simpa using this

/-- cloneS, whatever the slice: a slice that reads alike; nil just where it was. -/
theorem clone_any (ao : Option Addr) (n cap : Nat) (ss : List ByteArray) (w : World) (h : SRow w ao n cap ss) (hn : n ≤ 65536) :
    Calls Try.prog 12 #[.slice ao n cap] w fun e w' => ∃ (ao' : Option Addr) (cap' : Nat), e = .returned (.slice ao' n cap') ∧ SRow w' ao' n cap' ss ∧ Below w.heap.size w w' := by
  cases ao with
  | none =>
    obtain ⟨rfl, rfl⟩ := h.nil rfl
    exact (clone_nil w).mono fun e w' ⟨he, hw⟩ => by subst he; subst hw; exact ⟨_, _, rfl, h, Below.refl _ _⟩
  | some x => exact (clone_some x n cap ss w h hn).mono fun e w' ⟨he, hs, hb⟩ => ⟨_, _, he, hs, hb⟩

end Go.Proofs.Qxb6001105a.Kube
