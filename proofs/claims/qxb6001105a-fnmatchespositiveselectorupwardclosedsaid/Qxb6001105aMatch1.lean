/-
  (LabelSelector).Matches, a selector of MatchLabels and one requirement.
-/
import Derived.Test.Qxb6001105aMatch0
namespace Go.Proofs.Qxb6001105a.Kube
open Go.RowKit Go.Maps Go.WideMaps

/-- The label is there, and its value is among the values. -/
def Inn (D : DataW Unit) (key : ByteArray) (vs : List ByteArray) : Prop :=
  Maps.has D (.string key.data.toList) = true ∧ ∃ s ∈ vs, D.atKey (.string key.data.toList) (.lit (.string [])) = .lit (.string s.data.toList)

/-- The requirement is met. -/
def Met (D : DataW Unit) (key op : ByteArray) (vs : List ByteArray) : Prop :=
  (op.toList = [73, 110] ∧ Inn D key vs) ∨ (op.toList = [78, 111, 116, 73, 110] ∧ ¬ Inn D key vs) ∨
  (op.toList = [69, 120, 105, 115, 116, 115] ∧ Maps.has D (.string key.data.toList) = true) ∨
  (op.toList = [68, 111, 101, 115, 78, 111, 116, 69, 120, 105, 115, 116] ∧ ¬ Maps.has D (.string key.data.toList) = true)

/-- The call has returned whether the selector selects. -/
def MatchRet (Dl Ds : DataW Unit) (key op : ByteArray) (vs : List ByteArray) (e : Ending) : Prop := ∃ r : Bool, e = .returned (.bool r) ∧ (r = true ↔ Sub Dl Ds ∧ Met Dl key op vs)

section
variable {D : DataW Unit} {key op v : ByteArray} {vs : List ByteArray} {q : Bool}

theorem inn_iff (hv : D.atKey (.string key.data.toList) (.lit (.string [])) = .lit (.string v.data.toList)) : Inn D key vs ↔ Maps.has D (.string key.data.toList) = true ∧ v ∈ vs := by
  constructor
  · rintro ⟨h1, s, hs, h2⟩
    rw [hv] at h2
    obtain rfl : v = s := bytes_eq (by injection h2 with h2; injection h2)
    exact ⟨h1, hs⟩
  · rintro ⟨h1, h2⟩
    exact ⟨h1, v, h2, hv⟩

theorem met_in (ho : (op.toList == [73, 110]) = true) : Met D key op vs ↔ Inn D key vs := by simp [Met, eq_of_beq ho]
theorem met_notin (ho : (op.toList == [78, 111, 116, 73, 110]) = true) : Met D key op vs ↔ ¬ Inn D key vs := by simp [Met, eq_of_beq ho]
theorem met_exists (ho : (op.toList == [69, 120, 105, 115, 116, 115]) = true) : Met D key op vs ↔ Maps.has D (.string key.data.toList) = true := by simp [Met, eq_of_beq ho]
theorem met_dne (ho : (op.toList == [68, 111, 101, 115, 78, 111, 116, 69, 120, 105, 115, 116]) = true) : Met D key op vs ↔ ¬ Maps.has D (.string key.data.toList) = true := by simp [Met, eq_of_beq ho]
theorem met_other (h1 : (op.toList == [73, 110]) = false) (h2 : (op.toList == [78, 111, 116, 73, 110]) = false) (h3 : (op.toList == [69, 120, 105, 115, 116, 115]) = false)
    (h4 : (op.toList == [68, 111, 101, 115, 78, 111, 116, 69, 120, 105, 115, 116]) = false) : ¬ Met D key op vs := by
  simp only [beq_eq_false_iff_ne] at h1 h2 h3 h4
  simp [Met, h1, h2, h3, h4]

theorem ret_no {Dl Ds : DataW Unit} (h : ¬ Met Dl key op vs) : MatchRet Dl Ds key op vs (.returned (.bool false)) := ⟨false, rfl, fun h' => (by cases h'), fun h' => absurd h'.2 h⟩
theorem ret_yes {Dl Ds : DataW Unit} (hs : Sub Dl Ds) (h : Met Dl key op vs) : MatchRet Dl Ds key op vs (.returned (.bool true)) := ⟨true, rfl, fun _ => ⟨hs, h⟩, fun _ => rfl⟩

end

set_option maxRecDepth 100000 in
set_option maxHeartbeats 2000000 in
theorem match1 (m : Option Nat) (n : Nat) (Dl : DataW Unit) (ms : Option Nat) (ns : Nat) (Ds : DataW Unit) (eb : Nat) (key op : ByteArray) (va : Option Addr) (vn vc : Nat) (vs : List ByteArray) (w : World) (hm : MapIs w m n Dl) (hs : MapIs w ms ns Ds)
    (c0 : w.cell? ⟨eb, 0, none⟩ = some (.string key)) (c1 : w.cell? ⟨eb, 1, none⟩ = some (.string op)) (c2 : w.cell? ⟨eb, 2, none⟩ = some (.slice va vn vc)) (hv : SRow w va vn vc vs) (hkey : key.size ≤ maxLen) :
    Calls Try.prog 14 #[.agg #[.map ms, .slice (some ⟨eb, 0, none⟩) 1 1], .map m] w fun e w' => MatchRet Dl Ds key op vs e ∧ Below w.heap.size w w' := by
  obtain ⟨W, hW⟩ : ∃ W, W = w.alloc (.cells #[.map ms, .slice (some ⟨eb, 0, none⟩) 1 1] 30) := ⟨_, rfl⟩
  have hbW : Below w.heap.size w W := by rw [hW]; exact (Below.refl _ _).alloc (Nat.le_refl _) _
  have hWs : w.heap.size < W.heap.size := by rw [hW]; simp
  have cE : W.cell? ⟨w.heap.size, 1, none⟩ = some (.slice (some ⟨eb, 0, none⟩) 1 1) := by rw [hW]; simp
  have hsW := hs.later hbW
  go_enter Try.func14, Try.ntmps14
  go_wp2_with (first
    | (at_range; rw [← hW]; refine wpList_range_is _ rfl _ rfl ms ns Ds rfl hsW ?_; intro w0 left0 cnt0 hrg0 hl0 hg0)
    | go_in)
  go_frame
  clear hW
  go_loopw [5] (fun _ wr => ∃ (left : Lit → Bool) (cnt : Nat), RangeIs wr ms W.heap.size ns Ds left cnt ∧ (∀ kl, Maps.has Ds kl = true → left kl = false → At Dl Ds kl) ∧ Below W.heap.size W wr)
    (fun _ wr => wr.rangeLeft (ms.getD 0) W.heap.size)
  case atStart =>
    exact ⟨_, _, hrg0, (fun kl h1 h2 => by rw [hl0 kl h1] at h2; cases h2), (Below.refl _ _).grown hg0 (Nat.le_refl _) (fun j hj => by cases hj)⟩
  case round =>
    obtain ⟨left, cnt, hrg, hseen, hnx⟩ := hrel
    have Hseen : Hid (∀ kl, Maps.has Ds kl = true → left kl = false → At Dl Ds kl) := hseen
    have hbw : Below w.heap.size w wr := hbW.trans (hnx.mono (Nat.le_of_lt hWs))
    clear hseen hrg0 hl0 hg0
    go_wp2_with (first
      | (at_next; refine wpList_next_is _ rfl _ rfl ms W.heap.size ns Ds left cnt rfl hrg ?_ ?_)
      | go_in)
    · intro hl0
      have Hl0 : Hid (∀ kl, left kl = false) := hl0
      have cE' : wr.cell? ⟨w.heap.size, 1, none⟩ = some (.slice (some ⟨eb, 0, none⟩) 1 1) := (bcell hnx _ _ hWs).trans cE
      clear hl0
      have hbe := cell_lt c0
      have c0' : wr.cell? ⟨eb, 0, none⟩ = some (.string key) := (bcell hbw _ _ hbe).trans c0
      have c1' : wr.cell? ⟨eb, 1, none⟩ = some (.string op) := (bcell hbw _ _ hbe).trans c1
      have c2' : wr.cell? ⟨eb, 2, none⟩ = some (.slice va vn vc) := (bcell hbw _ _ hbe).trans c2
      have hsub : Hid (Sub Dl Ds) := fun kl hk => Hseen.out kl hk (Hl0.out kl)
      have hmX : ∀ o, MapIs (wr.alloc o) m n Dl := fun o => hm.later (hbw.alloc hbw.size o)
      have hvX : ∀ o, SRow (wr.alloc o) va vn vc vs := fun o => hv.later (hbw.alloc hbw.size o)
      have hbX : ∀ o, Below w.heap.size w (wr.alloc o) := fun o => hbw.alloc hbw.size o
      clear Hseen Hl0 hrg c0 c1 c2 cE hsW
      go_wp2
      refine wp_loop_rounds 2 ?_
      rw [rounds_succ]
      go_wp2_with (first
        | (at_lookup; refine wpList_lookup_is _ rfl _ _ rfl m n Dl rfl (hmX _) key rfl hkey ?_; intro v hv1)
        | (go_at_call 26; refine (contains_any va vn vc vs _ _ (hvX _)).mono ?_; rintro e w' ⟨⟨q, rfl, hq⟩, hw⟩; obtain rfl := hw.symm; clear hw)
        | go_in)
      · have ho : (op.toList == [73, 110]) = true := by assumption
        have hqf : (!q) = true := by assumption
        go_ret
        exact ⟨ret_no (fun h => by have := hq.2 ((inn_iff hv1).1 ((met_in ho).1 h)).2; rw [this] at hqf; cases hqf), hbX _⟩
      · have ho : (op.toList == [73, 110]) = true := by assumption
        have hh : Maps.has Dl (.string key.data.toList) = true := by assumption
        have hqt : (!q) = false := by assumption
        have hmet : Hid (Met Dl key op vs) := (met_in ho).2 ((inn_iff hv1).2 ⟨hh, hq.1 (by simpa using hqt)⟩)
        rw [rounds_succ]
        go_wp2
        go_ret
        exact ⟨ret_yes hsub.out hmet.out, hbX _⟩
      · have ho : (op.toList == [73, 110]) = true := by assumption
        have hh : ¬ Maps.has Dl (.string key.data.toList) = true := by assumption
        go_ret
        exact ⟨ret_no (fun h => hh ((met_in ho).1 h).1), hbX _⟩
      · have ho : (op.toList == [78, 111, 116, 73, 110]) = true := by assumption
        have hh : Maps.has Dl (.string key.data.toList) = true := by assumption
        have hqt : q = true := by assumption
        go_ret
        exact ⟨ret_no (fun h => (met_notin ho).1 h ((inn_iff hv1).2 ⟨hh, hq.1 hqt⟩)), hbX _⟩
      · have ho : (op.toList == [78, 111, 116, 73, 110]) = true := by assumption
        have hqf : q = false := by assumption
        have hmet : Hid (Met Dl key op vs) := (met_notin ho).2 (fun h => by have := hq.2 ((inn_iff hv1).1 h).2; rw [this] at hqf; cases hqf)
        rw [rounds_succ]
        go_wp2
        go_ret
        exact ⟨ret_yes hsub.out hmet.out, hbX _⟩
      · have ho : (op.toList == [78, 111, 116, 73, 110]) = true := by assumption
        have hh : ¬ Maps.has Dl (.string key.data.toList) = true := by assumption
        have hmet : Hid (Met Dl key op vs) := (met_notin ho).2 (fun h => hh h.1)
        rw [rounds_succ]
        go_wp2
        go_ret
        exact ⟨ret_yes hsub.out hmet.out, hbX _⟩
      · have ho : (op.toList == [69, 120, 105, 115, 116, 115]) = true := by assumption
        have hh : (!Maps.has Dl (.string key.data.toList)) = true := by assumption
        go_ret
        exact ⟨ret_no (fun h => by rw [(met_exists ho).1 h] at hh; cases hh), hbX _⟩
      · have ho : (op.toList == [69, 120, 105, 115, 116, 115]) = true := by assumption
        have hh : (!Maps.has Dl (.string key.data.toList)) = false := by assumption
        have hmet : Hid (Met Dl key op vs) := (met_exists ho).2 (by simpa using hh)
        rw [rounds_succ]
        go_wp2
        go_ret
        exact ⟨ret_yes hsub.out hmet.out, hbX _⟩
      · have ho : (op.toList == [68, 111, 101, 115, 78, 111, 116, 69, 120, 105, 115, 116]) = true := by assumption
        have hh : Maps.has Dl (.string key.data.toList) = true := by assumption
        go_ret
        exact ⟨ret_no (fun h => (met_dne ho).1 h hh), hbX _⟩
      · have ho : (op.toList == [68, 111, 101, 115, 78, 111, 116, 69, 120, 105, 115, 116]) = true := by assumption
        have hh : Maps.has Dl (.string key.data.toList) = false := by assumption
        have hmet : Hid (Met Dl key op vs) := (met_dne ho).2 (by rw [hh]; decide)
        rw [rounds_succ]
        go_wp2
        go_ret
        exact ⟨ret_yes hsub.out hmet.out, hbX _⟩
      · go_ret
        exact ⟨ret_no (met_other (by assumption) (by assumption) (by assumption) (by assumption)), hbX _⟩
    · intro x c w1 cnt1 hwx hlx hat hrg1 hlt hg1 hen
      have hnx1 : Below W.heap.size W w1 := hnx.grown hg1 hnx.size (fun j hj => by cases hj; exact Nat.le_refl _)
      have hbw1 : Below w.heap.size w w1 := hbW.trans (hnx1.mono (Nat.le_of_lt hWs))
      have hm1 := hm.later hbw1
      go_wp2_with (first
        | (at_lookup; refine wpList_lookup_is _ rfl _ _ rfl m n Dl rfl hm1 _ rfl hwx ?_; intro v hv1)
        | go_in)
      · have hne : (!v.toList == c.toList) = true := by assumption
        have hne' : v ≠ c := fun e => by rw [toList_eq_iff.2 e] at hne; cases hne
        go_ret
        exact ⟨⟨false, rfl, by simp; exact fun hs => absurd (hs _ (has_true_of_atKey hat)) (at_no hv1 hat hne')⟩, hbw1⟩
      · have hyes : Maps.has Dl (.string x.data.toList) = true := by assumption
        have hne : (!v.toList == c.toList) = false := by assumption
        have heq : v = c := toList_eq_iff.1 (by simpa using hne)
        go_roundw
        case rel => exact ⟨_, _, hrg1, seen_step Hseen.out (at_yes hyes (heq ▸ hv1) hat), hnx1⟩
        case measure => exact hlt
      · have hno : ¬ Maps.has Dl (.string x.data.toList) = true := by assumption
        go_ret
        exact ⟨⟨false, rfl, by simp; exact fun hs => absurd (hs _ (has_true_of_atKey hat)).1 hno⟩, hbw1⟩

end Go.Proofs.Qxb6001105a.Kube
