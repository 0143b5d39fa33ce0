/-
  putPairs: keys[i] -> vals[i] into a map, over the shorter length.
-/
import Derived.Test.Qxb6001105aBase
import Derived.RegionTactic
import Derived.ChangeAlike
namespace Go.Proofs.Qxb6001105a.Kube
open Go.RowKit Go.Maps Go.WideMaps

theorem law9 : Keyed Try.prog 9 := string_keyed Try.underlying9

/-- The map behind 'm[k] = v' for each pair. -/
def puts (D : DataW Unit) (ks vs : List ByteArray) : DataW Unit :=
  (ks.zip vs).foldl (fun m p => m.put (.string p.1.data.toList) (.lit (.string p.2.data.toList))) D

theorem take_zip {α β : Type} : ∀ (k : Nat) (a : List α) (b : List β), (a.take k).zip (b.take k) = (a.zip b).take k
  | 0, a, b => by simp
  | k + 1, [], b => by simp
  | k + 1, x :: a, [] => by simp
  | k + 1, x :: a, y :: b => by simp [take_zip k a b]

theorem puts_take_succ (D : DataW Unit) (ks vs : List ByteArray) (k : Nat) (hk : k < ks.length) (hv : k < vs.length) :
    puts D (ks.take (k + 1)) (vs.take (k + 1)) = (puts D (ks.take k) (vs.take k)).put (.string (ks.getD k ByteArray.empty).data.toList) (.lit (.string (vs.getD k ByteArray.empty).data.toList)) := by
  unfold puts
  rw [take_zip, take_zip, List.take_succ_eq_append_getElem (by simp; omega), List.foldl_append]
  simp [List.getElem_zip, List.getD_eq_getElem?_getD, List.getElem?_eq_getElem hk, List.getElem?_eq_getElem hv]

theorem puts_take_min (D : DataW Unit) (ks vs : List ByteArray) (k : Nat) (hk : k = min ks.length vs.length) :
    puts D (ks.take k) (vs.take k) = puts D ks vs := by
  unfold puts
  rw [take_zip, List.take_of_length_le (by simp; omega)]

/-- A cell that is read does not lie in the map's block. -/
theorem cell_ne_map {w : World} {B b o n : Nat} {v : Value} {D : DataW Unit} (hm : w.ownsMap Try.prog 9 (plainElem Try.prog 9) B n D) (h : w.cell? ⟨b, o, none⟩ = some v) : b ≠ B := by
  intro e
  obtain ⟨es, clock, hb, _⟩ := hm
  subst e
  simp [World.cell?, hb] at h

/-- The slice reads as it did while the map alone is written. -/
theorem SRow.grown {w w' : World} {ao : Option Addr} {n cap B N : Nat} {D : DataW Unit} {ss : List ByteArray} (h : SRow w ao n cap ss) (hm : w.ownsMap Try.prog 9 (plainElem Try.prog 9) B N D) (hg : w.grownBy w' (some B)) : SRow w' ao n cap ss :=
  ⟨h.len, h.le, h.nil, fun hn => by
    obtain ⟨b, off, e, hc⟩ := h.cell hn
    refine ⟨b, off, e, fun i hi => ?_⟩
    rw [← hc i hi]
    exact World.cell?_of_block (w := w) (hg.block b (cell_lt (hc i hi)) (fun e' => cell_ne_map hm (hc i hi) (Option.some.inj e'))), h.sz⟩

set_option maxHeartbeats 400000 in
theorem put_any (B N : Nat) (D : DataW Unit) (ka : Option Addr) (kn kc : Nat) (ks : List ByteArray) (va : Option Addr) (vn vc : Nat) (vs : List ByteArray) (w : World)
    (hm : w.ownsMap Try.prog 9 (plainElem Try.prog 9) B N D) (hk : SRow w ka kn kc ks) (hv : SRow w va vn vc vs) (hN : N ≤ 200000) (hkn : kn ≤ 65536) (hvn : vn ≤ 65536) :
    Calls Try.prog 25 #[.map (some B), .slice ka kn kc, .slice va vn vc] w fun e w' => e = .returned (.tuple #[]) ∧ w'.ownsMap Try.prog 9 (plainElem Try.prog 9) B (N + kn) (puts D ks vs) ∧ w.grownBy w' (some B) := by
  go_enter Try.func25, Try.ntmps25
  have hkl := hk.len
  have hvl := hv.len
  go_wp2
  all_goals
    go_loopw [7] (fun i wr => ∃ k : Nat, k ≤ kn ∧ k ≤ vn ∧ i = .int .i64 k ∧ wr.ownsMap Try.prog 9 (plainElem Try.prog 9) B (N + k) (puts D (ks.take k) (vs.take k)) ∧ w.grownBy wr (some B))
      (fun i _ => min kn vn - (intOf i).toNat)
    case atStart => exact ⟨0, Nat.zero_le _, Nat.zero_le _, rfl, by simpa [puts] using hm, World.grownBy.refl _ _⟩
    case round =>
      obtain ⟨k, hk1, hk2, rfl, hown, hgr⟩ := hrel
      by_cases hlt : k < min kn vn
      · obtain ⟨kb, ko, rfl, hkc⟩ := hk.cell (by omega)
        obtain ⟨vb, vo, rfl, hvc⟩ := hv.cell (by omega)
        obtain ⟨s, hs⟩ : ∃ s, s = ks.getD k ByteArray.empty := ⟨_, rfl⟩
        obtain ⟨t, ht⟩ : ∃ t, t = vs.getD k ByteArray.empty := ⟨_, rfl⟩
        have ck : wr.cell? ⟨kb, ko + k, none⟩ = some (.string s) := by rw [hs]; exact hgr.cell (hkc k (by omega)) (fun e => cell_ne_map hm (hkc k (by omega)) (Option.some.inj e))
        have cv : wr.cell? ⟨vb, vo + k, none⟩ = some (.string t) := by rw [ht]; exact hgr.cell (hvc k (by omega)) (fun e => cell_ne_map hm (hvc k (by omega)) (Option.some.inj e))
        have hs1 : s.size ≤ maxLen := by rw [hs]; exact hk.szD k
        have ht1 : t.size ≤ maxLen := by rw [ht]; exact hv.szD k
        have hnext := puts_take_succ D ks vs k (by omega) (by omega)
        rw [← hs, ← ht] at hnext
        obtain ⟨w1, hrun, hown1, hg1⟩ := (hown.drew).update law9 Try.underlying26 (by unfold maxLen; omega) (keyOf_string_mk Try.underlying9 hs1) (plainElem_string Try.underlying9 ht1)
        rw [← hnext] at hown1
        have hgr1 := hgr.andThen (c := w1) ⟨hg1.os, hg1.tape, hg1.output, hg1.size, hg1.block⟩ (fun j hj => Or.inr hj)
        clear hs ht hnext hown hgr hkc hvc hg1
        go_wp2
        go_region
        go_wp2
        go_roundw
        case rel => exact ⟨k + 1, by omega, by omega, by go_num, hown1, hgr1⟩
        case measure => simp [intOf]; omega
      · have hkm : k = min ks.length vs.length := by omega
        rw [puts_take_min D ks vs k hkm] at hown
        have HK : Hid (k = min ks.length vs.length) := hkm
        clear hkm
        go_wp2
        go_end0
        exact ⟨rfl, hown.mono (by omega), hgr⟩

end Go.Proofs.Qxb6001105a.Kube
