/-
  slices.Index, slices.Contains at []string.
-/
import Derived.Test.Qxb6001105aHolds
namespace Go.Proofs.Qxb6001105a.Kube
open Go.RowKit Go.Maps Go.WideMaps

/-- The call has returned an integer that is not negative just where v is among the elements. -/
def IdxRet (vs : List ByteArray) (v : ByteArray) (e : Ending) : Prop := ∃ r : Int, e = .returned (.int .i64 r) ∧ (0 ≤ r ↔ v ∈ vs)
/-- The call has returned whether v is among the elements. -/
def MemRet (vs : List ByteArray) (v : ByteArray) (e : Ending) : Prop := ∃ r : Bool, e = .returned (.bool r) ∧ (r = true ↔ v ∈ vs)

theorem mem_getD {vs : List ByteArray} {k : Nat} (hk : k < vs.length) : vs.getD k ByteArray.empty ∈ vs := by
  rw [List.getD_eq_getElem?_getD, List.getElem?_eq_getElem hk]
  exact List.getElem_mem hk

theorem not_mem_of {vs : List ByteArray} {v : ByteArray} (h : ∀ j, j < vs.length → v ≠ vs.getD j ByteArray.empty) : v ∉ vs := by
  intro hm
  obtain ⟨j, hj, e⟩ := List.getElem_of_mem hm
  refine h j hj ?_
  rw [List.getD_eq_getElem?_getD, List.getElem?_eq_getElem hj]
  exact e.symm

set_option maxHeartbeats 400000 in
theorem index_any (ao : Option Addr) (n cap : Nat) (vs : List ByteArray) (v : ByteArray) (w : World) (h : SRow w ao n cap vs) :
    Calls Try.prog 28 #[.slice ao n cap, .string v] w fun e w' => IdxRet vs v e ∧ w' = w := by
  have hle := h.le
  have hlen := h.len
  unfold maxLen at hle
  go_enter Try.func28, Try.ntmps28
  go_wp2
  go_loop [8] (fun i => ∃ k : Nat, k ≤ n ∧ i = .int .i64 k ∧ ∀ j, j < k → v ≠ vs.getD j ByteArray.empty) (fun i => n - (intOf i).toNat)
  case atStart => exact ⟨0, Nat.zero_le _, rfl, fun j hj => by omega⟩
  case round =>
    obtain ⟨k, hk, rfl, hno⟩ := hrel
    have Hno : Hid (∀ j, j < k → v ≠ vs.getD j ByteArray.empty) := hno
    clear hno
    by_cases hlt : k < n
    · obtain ⟨b, off, rfl, hc⟩ := h.cell (by omega)
      obtain ⟨s, hs⟩ : ∃ s, s = vs.getD k ByteArray.empty := ⟨_, rfl⟩
      have hck := hc k hlt
      rw [← hs] at hck
      have Hs : Hid (s = vs.getD k ByteArray.empty) := hs
      clear hs hc
      go_wp2
      · have he : (v.toList == s.toList) = true := by assumption
        have hv : v ∈ vs := by rw [toList_eq_iff.1 he, Hs.out]; exact mem_getD (by omega)
        go_ret
        exact ⟨⟨k, rfl, by simp; exact hv⟩, rfl⟩
      · have he : (v.toList == s.toList) = false := by assumption
        go_round
        case rel =>
          refine ⟨k + 1, by omega, by go_num, fun j hj => ?_⟩
          by_cases e : j = k
          · subst e
            rw [← Hs.out]
            intro e'
            rw [toList_eq_iff.2 e'] at he
            cases he
          · exact Hno.out j (by omega)
        case measure => simp [intOf]; omega
    · go_wp2
      go_ret
      exact ⟨⟨-1, rfl, by simp; exact not_mem_of fun j hj => Hno.out j (by omega)⟩, rfl⟩

theorem contains_any (ao : Option Addr) (n cap : Nat) (vs : List ByteArray) (v : ByteArray) (w : World) (h : SRow w ao n cap vs) :
    Calls Try.prog 26 #[.slice ao n cap, .string v] w fun e w' => MemRet vs v e ∧ w' = w := by
  go_enter Try.func26, Try.ntmps26
  go_wp2_with fail
  refine (index_any ao n cap vs v w h).mono ?_
  rintro e w' ⟨⟨r, rfl, hr⟩, hw⟩
  obtain rfl : w = w' := hw.symm
  have Hr : Hid (0 ≤ r ↔ v ∈ vs) := hr
  clear hr
  go_wp2
  go_ret
  exact ⟨⟨decide (0 ≤ r), rfl, by simp; exact Hr.out⟩, rfl⟩

end Go.Proofs.Qxb6001105a.Kube
