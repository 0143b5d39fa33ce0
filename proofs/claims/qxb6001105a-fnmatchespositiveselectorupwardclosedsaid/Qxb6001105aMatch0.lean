/-
  (LabelSelector).Matches, a selector of MatchLabels alone.
-/
import Derived.Test.Qxb6001105aRange
namespace Go.Proofs.Qxb6001105a.Kube
open Go.RowKit Go.Maps Go.WideMaps

/-- Below what was there, and the box of the receiver, nothing turns. -/
theorem bcell {W w1 : World} {B : Nat} (hb : Below B W w1) : ∀ b o, b < B → w1.cell? ⟨b, o, none⟩ = W.cell? ⟨b, o, none⟩ :=
  fun b o h => hb.cell (p := ⟨b, o, none⟩) h

set_option maxRecDepth 100000 in
set_option maxHeartbeats 2000000 in
theorem match0 (m : Option Nat) (n : Nat) (Dl : DataW Unit) (ms : Option Nat) (ns : Nat) (Ds : DataW Unit) (w : World) (hm : MapIs w m n Dl) (hs : MapIs w ms ns Ds) :
    Calls Try.prog 14 #[.agg #[.map ms, .slice none 0 0], .map m] w fun e w' => SubRet Dl Ds e ∧ Below w.heap.size w w' := by
  obtain ⟨W, hW⟩ : ∃ W, W = w.alloc (.cells #[.map ms, .slice none 0 0] 30) := ⟨_, rfl⟩
  have hbW : Below w.heap.size w W := by rw [hW]; exact (Below.refl _ _).alloc (Nat.le_refl _) _
  have hWs : w.heap.size < W.heap.size := by rw [hW]; simp
  have cE : W.cell? ⟨w.heap.size, 1, none⟩ = some (.slice none 0 0) := by rw [hW]; simp
  have hsW := hs.later hbW
  go_enter Try.func14, Try.ntmps14
  go_wp2_with (first
    | (at_range; rw [← hW]; refine wpList_range_is _ rfl _ rfl ms ns Ds rfl hsW ?_; intro w0 left0 cnt0 hrg0 hl0 hg0)
    | go_in)
  go_frame
  clear hW
  go_loopw [5] (fun _ wr => ∃ (left : Lit → Bool) (cnt : Nat), RangeIs wr ms W.heap.size ns Ds left cnt ∧ (∀ kl, Maps.has Ds kl = true → left kl = false → At Dl Ds kl) ∧ Below W.heap.size W wr)
    (fun _ wr => wr.rangeLeft (ms.getD 0) W.heap.size)
  case atStart =>
    exact ⟨_, _, hrg0, (fun kl h1 h2 => by rw [hl0 kl h1] at h2; cases h2), (Below.refl _ _).grown hg0 (Nat.le_refl _) (fun j hj => by cases hj)⟩
  case round =>
    obtain ⟨left, cnt, hrg, hseen, hnx⟩ := hrel
    have Hseen : Hid (∀ kl, Maps.has Ds kl = true → left kl = false → At Dl Ds kl) := hseen
    have hbw : Below w.heap.size w wr := hbW.trans (hnx.mono (Nat.le_of_lt hWs))
    clear hseen hrg0 hl0 hg0
    go_wp2_with (first
      | (at_next; refine wpList_next_is _ rfl _ rfl ms W.heap.size ns Ds left cnt rfl hrg ?_ ?_)
      | go_in)
    · intro hl0
      have Hl0 : Hid (∀ kl, left kl = false) := hl0
      have cE' : wr.cell? ⟨w.heap.size, 1, none⟩ = some (.slice none 0 0) := (bcell hnx _ _ hWs).trans cE
      clear hl0
      go_wp2
      refine wp_loop_rounds 1 ?_
      rw [rounds_succ]
      go_wp2
      go_ret
      exact ⟨⟨true, rfl, by simp; exact fun kl hk => Hseen.out kl hk (Hl0.out kl)⟩, hbw⟩
    · intro x c w1 cnt1 hwx hlx hat hrg1 hlt hg1 hen
      have hnx1 : Below W.heap.size W w1 := hnx.grown hg1 hnx.size (fun j hj => by cases hj; exact Nat.le_refl _)
      have hbw1 : Below w.heap.size w w1 := hbW.trans (hnx1.mono (Nat.le_of_lt hWs))
      have hm1 := hm.later hbw1
      go_wp2_with (first
        | (at_lookup; refine wpList_lookup_is _ rfl _ _ rfl m n Dl rfl hm1 _ rfl hwx ?_; intro v hv)
        | go_in)
      · have hne : (!v.toList == c.toList) = true := by assumption
        have hne' : v ≠ c := fun e => by rw [toList_eq_iff.2 e] at hne; cases hne
        go_ret
        exact ⟨⟨false, rfl, by simp; exact fun hs => at_no hv hat hne' (hs _ (has_true_of_atKey hat))⟩, hbw1⟩
      · have hyes : Maps.has Dl (.string x.data.toList) = true := by assumption
        have hne : (!v.toList == c.toList) = false := by assumption
        have heq : v = c := toList_eq_iff.1 (by simpa using hne)
        go_roundw
        case rel => exact ⟨_, _, hrg1, seen_step Hseen.out (at_yes hyes (heq ▸ hv) hat), hnx1⟩
        case measure => exact hlt
      · have hno : ¬ Maps.has Dl (.string x.data.toList) = true := by assumption
        go_ret
        exact ⟨⟨false, rfl, by simp; exact fun hs => hno (hs _ (has_true_of_atKey hat)).1⟩, hbw1⟩

end Go.Proofs.Qxb6001105a.Kube
