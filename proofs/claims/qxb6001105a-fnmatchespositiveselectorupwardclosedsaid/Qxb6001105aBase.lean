/-
  THE SEAT's OWN WORDS: what the walks are told of a slice of strings, of a map of strings; small laws on worlds.
-/
import Derived.Test.Qxb6001105aRows
import Derived.WalkKit
import Derived.ProofKit
import Derived.OpenShut
import Derived.ShutString
import Derived.ChangeOld
import Derived.Below
import Derived.Maps.RangeWalk
import Derived.Maps.Ext
import Derived.Maps.StringElems
import Derived.SliceStrings
import Derived.WalkLawsBesides
namespace Go.Proofs.Qxb6001105a.Kube
open Go.RowKit Go.Maps

/-- A slice of strings, as a walk reads it: 'ss' are its elements. -/
structure SRow (w : World) (ao : Option Addr) (n cap : Nat) (ss : List ByteArray) : Prop where
  len : ss.length = n
  le : n ≤ maxLen
  nil : ao = none → n = 0 ∧ cap = 0
  cell : 0 < n → ∃ b off, ao = some ⟨b, off, none⟩ ∧ ∀ i, i < n → w.cell? ⟨b, off + i, none⟩ = some (.string (ss.getD i ByteArray.empty))
  sz : ∀ s ∈ ss, s.size ≤ maxLen

theorem SRow.szD {w : World} {ao : Option Addr} {n cap : Nat} {ss : List ByteArray} (h : SRow w ao n cap ss) (i : Nat) : (ss.getD i ByteArray.empty).size ≤ maxLen := by
  by_cases hi : i < ss.length
  · rw [List.getD_eq_getElem?_getD, List.getElem?_eq_getElem hi]
    exact h.sz _ (List.getElem_mem hi)
  · rw [List.getD_eq_getElem?_getD, List.getElem?_eq_none (by omega)]
    show (0 : Nat) ≤ maxLen
    exact Nat.zero_le _

theorem cell_lt {w : World} {b o : Nat} {v : Value} (h : w.cell? ⟨b, o, none⟩ = some v) : b < w.heap.size := by
  by_cases hb : b < w.heap.size
  · exact hb
  · have : w.heap[b]? = none := Array.getElem?_eq_none (by omega)
    simp [World.cell?, this] at h

/-- A slice of strings that came in, opened. -/
theorem srow_of {H : Type} {enc : TypeId × Value → H} {w : World} {held : Bool} {fuel : Nat} {ao : Option Addr} {n cap : Nat} {x : DataW H × List MemPlace}
    (h : DataW.trod enc Try.prog w 0 (fun _ => true) held fuel 22 (Value.slice ao n cap).cells.toList = some x) : ∃ ss, SRow w ao n cap ss := by
  rcases Go.ChangeShapes.open_strings Try.underlying22 Try.underlying9 (by kernel_rfl) h with ⟨hcs, _⟩ | ⟨a, l, c, ss, hcs, _, hl, hm, hz, _, hcell, hwz⟩
  · simp [Value.cells] at hcs
    obtain ⟨rfl, rfl, rfl⟩ := hcs
    exact ⟨[], rfl, Nat.zero_le _, fun _ => ⟨rfl, rfl⟩, fun h => absurd h (by omega), fun s hs => by simp at hs⟩
  · simp [Value.cells] at hcs
    obtain ⟨rfl, rfl, rfl⟩ := hcs
    have hz' : ss.length = cap := by simpa using hz
    refine ⟨ss.take n, ?_, Nat.le_trans hl hm, (fun e => by cases e), fun hp => ?_, fun s hs => hwz s (List.mem_of_mem_take hs)⟩
    · rw [List.length_take]; omega
    · obtain ⟨b, off, spot⟩ := a
      have hspot : spot = none := by simpa [Addr.add] using World.cell?_spot (hcell 0 (by omega))
      subst hspot
      refine ⟨b, off, rfl, fun i hi => ?_⟩
      rw [← Go.WideShapes.add_plain, hcell i (by omega), List.getD_eq_getElem?_getD, List.getD_eq_getElem?_getD, List.getElem?_take_of_lt hi]

/-- The slice reads as it did in every world that keeps what was there. -/
theorem SRow.later {w w' : World} {ao : Option Addr} {n cap : Nat} {ss : List ByteArray} (h : SRow w ao n cap ss) (hb : Below w.heap.size w w') : SRow w' ao n cap ss :=
  ⟨h.len, h.le, h.nil, fun hn => by
    obtain ⟨b, off, e, hc⟩ := h.cell hn
    exact ⟨b, off, e, fun i hi => (hb.cell (p := ⟨b, off + i, none⟩) (cell_lt (hc i hi))).trans (hc i hi)⟩, h.sz⟩

/-- The call has returned some bool; some integer. (Behind a name: else the walk's own rules turn the 'there is' into an 'or'.) -/
def SomeBool (e : Ending) : Prop := ∃ r : Bool, e = .returned (.bool r)
def SomeInt (e : Ending) : Prop := ∃ r : Int, e = .returned (.int .i64 r)

/-! ### addBytes: it reads, and gives some integer -/
set_option maxHeartbeats 400000 in
theorem addBytes_any (m : Int) (ao : Option Addr) (n cap : Nat) (ss : List ByteArray) (w : World) (h : SRow w ao n cap ss) :
    Calls Try.prog 11 #[.int .i64 m, .slice ao n cap] w fun e w' => SomeInt e ∧ w' = w := by
  have hle := h.le
  unfold maxLen at hle
  go_enter Try.func11, Try.ntmps11
  go_wp2
  · go_ret
    exact ⟨⟨_, rfl⟩, rfl⟩
  · go_loop [0, 5] (fun t i => ∃ (k : Nat) (r : Int), k ≤ n ∧ i = .int .i64 k ∧ t = .int .i64 r) (fun _ i => n - (intOf i).toNat)
    case atStart => exact ⟨0, m, Nat.zero_le _, rfl, rfl⟩
    case round =>
      obtain ⟨k, r, hk, rfl, rfl⟩ := hrel
      by_cases hlt : k < n
      · obtain ⟨b, off, rfl, hc⟩ := h.cell (by omega)
        have hck := hc k hlt
        go_wp2
        · go_ret
          exact ⟨⟨_, rfl⟩, rfl⟩
        · go_ret
          exact ⟨⟨_, rfl⟩, rfl⟩
        · go_round
          case rel => exact ⟨k + 1, _, by omega, by go_num, rfl⟩
          case measure => simp [intOf]; omega
      · go_wp2
        go_ret
        exact ⟨⟨_, rfl⟩, rfl⟩

end Go.Proofs.Qxb6001105a.Kube
