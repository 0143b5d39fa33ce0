/-
  mkMap: a map out of paired slices; nil keys give the nil map.
-/
import Derived.Test.Qxb6001105aPut
namespace Go.Proofs.Qxb6001105a.Kube
open Go.RowKit Go.Maps Go.WideMaps
open Go.ChangeMaps Go.MapKept

/-- 'make(map[K]V, n)'. -/
theorem run_makeMap_hint (q : IntKind) (x : Int) (w : World) : (Instr.makeMap 26 (some (.int q x))).run Try.prog w = .ok (.map (some w.heap.size)) (w.alloc (.map #[] 0)) := by
  simp [Instr.makeMap, run_underlying Try.underlying26, asInt, asIntOf, Result.andThen]

/-- A map value reads as D (of at most n entries); the nil map reads as the empty one. -/
def MapIs (w : World) (m : Option Nat) (n : Nat) (D : DataW Unit) : Prop :=
  match m with
  | none => D = .map []
  | some b => w.ownsMap Try.prog 9 (plainElem Try.prog 9) b n D

theorem MapIs.later {w w' : World} {m : Option Nat} {n : Nat} {D : DataW Unit} (h : MapIs w m n D) (hb : Below w.heap.size w w') : MapIs w' m n D := by
  cases m with
  | none => exact h
  | some b =>
    have hlt : b < w.heap.size := World.ownsMap.lt h
    obtain ⟨es, clock, hh, r⟩ := h
    exact ⟨es, clock, (hb.block b hlt).trans hh, r⟩

theorem puts_nil (vs : List ByteArray) (D : DataW Unit) : puts D [] vs = D := by simp [puts]

theorem mk_nil (va : Option Addr) (vn vc : Nat) (w : World) :
    Calls Try.prog 13 #[.slice none 0 0, .slice va vn vc] w fun e w' => e = .returned (.map none) ∧ w' = w := by
  have heq := fun w => Lib.run_eql_slice_nil (P := Try.prog) w 22 9 none 0 0 0 0 Try.underlying22
  go_enter Try.func13, Try.ntmps13
  go_wp2
  go_ret
  exact ⟨rfl, rfl⟩

set_option maxHeartbeats 400000 in
theorem mk_some (x : Addr) (kn kc : Nat) (ks : List ByteArray) (va : Option Addr) (vn vc : Nat) (vs : List ByteArray) (w : World)
    (hk : SRow w (some x) kn kc ks) (hv : SRow w va vn vc vs) (hkn : kn ≤ 65536) (hvn : vn ≤ 65536) :
    Calls Try.prog 13 #[.slice (some x) kn kc, .slice va vn vc] w fun e w' => e = .returned (.map (some w.heap.size)) ∧ w'.ownsMap Try.prog 9 (plainElem Try.prog 9) w.heap.size kn (puts (.map []) ks vs) ∧ Below w.heap.size w w' := by
  have heq := fun w => Lib.run_eql_slice_nil (P := Try.prog) w 22 9 (some x) kn kc 0 0 Try.underlying22
  have hmm := run_makeMap_hint
  have hb0 : Below w.heap.size w (w.alloc (.map #[] 0)) := (Below.refl _ _).alloc (Nat.le_refl _) _
  have hm0 : (w.alloc (.map #[] 0)).ownsMap Try.prog 9 (plainElem (H := Unit) Try.prog 9) w.heap.size 0 (.map []) := World.ownsMap_made _ _ _ _
  have hk0 := hk.later hb0
  have hv0 := hv.later hb0
  go_enter Try.func13, Try.ntmps13
  go_wp2_with fail
  all_goals
    refine (put_any w.heap.size 0 (.map []) (some x) kn kc ks va vn vc vs _ hm0 hk0 hv0 (by omega) hkn hvn).mono ?_
    rintro e w' ⟨rfl, hown, hg⟩
    go_wp2
    go_ret
    exact ⟨rfl, by simpa using hown, hb0.grown hg (by simp) (fun j hj => by cases hj; exact Nat.le_refl _)⟩

/-- mkMap, whatever the slices. -/
theorem mk_any (ka : Option Addr) (kn kc : Nat) (ks : List ByteArray) (va : Option Addr) (vn vc : Nat) (vs : List ByteArray) (w : World)
    (hk : SRow w ka kn kc ks) (hv : SRow w va vn vc vs) (hkn : kn ≤ 65536) (hvn : vn ≤ 65536) :
    Calls Try.prog 13 #[.slice ka kn kc, .slice va vn vc] w fun e w' => ∃ m, e = .returned (.map m) ∧ MapIs w' m 65536 (puts (.map []) ks vs) ∧ Below w.heap.size w w' := by
  cases ka with
  | none =>
    obtain ⟨rfl, rfl⟩ := hk.nil rfl
    obtain rfl : ks = [] := List.length_eq_zero_iff.1 hk.len
    exact (mk_nil va vn vc w).mono fun e w' ⟨he, hw⟩ => by subst he; subst hw; exact ⟨none, rfl, puts_nil _ _, Below.refl _ _⟩
  | some x => exact (mk_some x kn kc ks va vn vc vs w hk hv hkn hvn).mono fun e w' ⟨he, hs, hb⟩ => ⟨_, he, hs.mono hkn, hb⟩

end Go.Proofs.Qxb6001105a.Kube
