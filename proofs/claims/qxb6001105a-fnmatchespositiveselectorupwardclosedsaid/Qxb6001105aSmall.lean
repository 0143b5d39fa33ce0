/-
  addLen, req, isOp; a selector of one requirement that lies in memory.
-/
import Derived.Test.Qxb6001105aMatch1
import Derived.Test.Qxb6001105aClone
namespace Go.Proofs.Qxb6001105a.Kube
open Go.RowKit Go.Maps Go.WideMaps

theorem addLen_any (m : Int) (s : ByteArray) (w : World) :
    Calls Try.prog 19 #[.int .i64 m, .string s] w fun e w' => SomeInt e ∧ w' = w := by
  go_enter Try.func19, Try.ntmps19
  go_wp2
  all_goals
    go_ret
    exact ⟨⟨_, rfl⟩, rfl⟩

/-- Is the operator one of the four? -/
def isOpB (op : ByteArray) : Bool := op.toList == [73, 110] || op.toList == [78, 111, 116, 73, 110] || op.toList == [69, 120, 105, 115, 116, 115] || op.toList == [68, 111, 101, 115, 78, 111, 116, 69, 120, 105, 115, 116]

theorem isOp_any (op : ByteArray) (w : World) :
    Calls Try.prog 23 #[.string op] w fun e w' => e = .returned (.bool (isOpB op)) ∧ w' = w := by
  go_enter Try.func23, Try.ntmps23
  go_wp2
  all_goals
    go_ret
    exact ⟨by simp [isOpB, *], rfl⟩

theorem req_any (key op : ByteArray) (va : Option Addr) (vn vc : Nat) (w : World) :
    Calls Try.prog 20 #[.string key, .string op, .slice va vn vc] w fun e w' => e = .returned (.agg #[.string key, .string op, .slice va vn vc]) ∧ Below w.heap.size w w' := by
  go_enter Try.func20, Try.ntmps20
  go_wp2
  exact bodyPost_ret (v := .agg #[.string key, .string op, .slice va vn vc]) (by simp [results, Try.results20, go_sem]) rfl ⟨rfl, (Below.refl _ _).alloc (Nat.le_refl _) _⟩

/-- Block sb holds a selector: MatchLabels ms, one requirement, which lies in block eb. -/
structure SelAt (w : World) (sb eb : Nat) (ms : Option Nat) (key op : ByteArray) (va : Option Addr) (vn vc : Nat) : Prop where
  s0 : w.cell? ⟨sb, 0, none⟩ = some (.map ms)
  s1 : w.cell? ⟨sb, 1, none⟩ = some (.slice (some ⟨eb, 0, none⟩) 1 1)
  c0 : w.cell? ⟨eb, 0, none⟩ = some (.string key)
  c1 : w.cell? ⟨eb, 1, none⟩ = some (.string op)
  c2 : w.cell? ⟨eb, 2, none⟩ = some (.slice va vn vc)

theorem SelAt.later {w w' : World} {sb eb : Nat} {ms : Option Nat} {key op : ByteArray} {va : Option Addr} {vn vc : Nat} (h : SelAt w sb eb ms key op va vn vc) (hb : Below w.heap.size w w') : SelAt w' sb eb ms key op va vn vc :=
  ⟨(bcell hb _ _ (cell_lt h.s0)).trans h.s0, (bcell hb _ _ (cell_lt h.s1)).trans h.s1, (bcell hb _ _ (cell_lt h.c0)).trans h.c0, (bcell hb _ _ (cell_lt h.c1)).trans h.c1, (bcell hb _ _ (cell_lt h.c2)).trans h.c2⟩

theorem SelAt.made (w : World) (ms : Option Nat) (key op : ByteArray) (va : Option Addr) (vn vc : Nat) :
    SelAt ((w.alloc (.cells #[.string key, .string op, .slice va vn vc] 37)).alloc (.cells #[.map ms, .slice (some ⟨w.heap.size, 0, none⟩) 1 1] 30)) (w.heap.size + 1) w.heap.size ms key op va vn vc := by
  have e1 : (w.alloc (.cells #[.string key, .string op, .slice va vn vc] 37)).heap.size = w.heap.size + 1 := by simp
  refine ⟨?_, ?_, ?_, ?_, ?_⟩
  · rw [← e1]; simp
  · rw [← e1]; simp
  · simp
  · simp
  · simp

theorem below_made (w : World) (o1 o2 : Obj) : Below w.heap.size w ((w.alloc o1).alloc o2) := ((Below.refl _ _).alloc (Nat.le_refl _) _).alloc (by simp) _

end Go.Proofs.Qxb6001105a.Kube
