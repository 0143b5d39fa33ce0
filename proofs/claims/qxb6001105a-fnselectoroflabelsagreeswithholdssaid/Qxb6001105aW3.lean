/-
  FnSelectorOfLabelsAgreesWithHolds: the walk.
-/
import Derived.Test.Qxb6001105aMatch0
import Derived.Test.Qxb6001105aClone
import Derived.Test.Qxb6001105aZz10
namespace Go.Proofs.Qxb6001105a.Kube
open Go.RowKit Go.Maps Go.WideMaps

set_option maxRecDepth 100000 in
set_option maxHeartbeats 2000000 in
theorem walk3 (a0 : Option Addr) (n0 c0 : Nat) (s0 : List ByteArray) (a1 : Option Addr) (n1 c1 : Nat) (s1 : List ByteArray) (a2 : Option Addr) (n2 c2 : Nat) (s2 : List ByteArray) (a3 : Option Addr) (n3 c3 : Nat) (s3 : List ByteArray) (w : World)
    (h0 : SRow w a0 n0 c0 s0) (h1 : SRow w a1 n1 c1 s1) (h2 : SRow w a2 n2 c2 s2) (h3 : SRow w a3 n3 c3 s3) :
    Calls Try.prog 3 #[.slice a0 n0 c0, .slice a1 n1 c1, .slice a2 n2 c2, .slice a3 n3 c3] w fun e w' => e = .returned (.bool true) ∧ Below w.heap.size w w' := by
  go_enter Try.func3, Try.ntmps3
  go_wp2_with fail
  refine (zz10 a0 n0 c0 s0 a1 n1 c1 s1 a2 n2 c2 s2 a3 n3 c3 s3 w h0 h1 h2 h3).mono ?_
  rintro e w' ⟨⟨r, rfl⟩, hw⟩
  obtain rfl : w = w' := hw.symm
  cases r
  · go_wp2
    go_ret
    exact ⟨rfl, Below.refl _ _⟩
  · go_wp2_with fail
    any_goals (go_ret; exact ⟨rfl, Below.refl _ _⟩)
    have g0 : n0 ≤ 65536 := by omega
    have g1 : n1 ≤ 65536 := by omega
    have g2 : n2 ≤ 65536 := by omega
    have g3 : n3 ≤ 65536 := by omega
    refine (addBytes_any 0 a0 n0 c0 s0 w h0).mono ?_
    rintro e w' ⟨⟨r0, rfl⟩, hw⟩
    obtain rfl : w = w' := hw.symm
    go_wp2_with fail
    refine (addBytes_any r0 a1 n1 c1 s1 w h1).mono ?_
    rintro e w' ⟨⟨r1, rfl⟩, hw⟩
    obtain rfl : w = w' := hw.symm
    go_wp2_with fail
    refine (addBytes_any r1 a2 n2 c2 s2 w h2).mono ?_
    rintro e w' ⟨⟨r2, rfl⟩, hw⟩
    obtain rfl : w = w' := hw.symm
    go_wp2_with fail
    refine (addBytes_any r2 a3 n3 c3 s3 w h3).mono ?_
    rintro e w' ⟨⟨r3, rfl⟩, hw⟩
    obtain rfl : w = w' := hw.symm
    clear hw
    go_wp2_with fail
    any_goals (go_ret; exact ⟨rfl, Below.refl _ _⟩)
    refine (clone_any a0 n0 c0 s0 w h0 g0).mono ?_
    rintro e w1 ⟨b0, d0, rfl, k0, hb1⟩
    have h1 := h1.later hb1
    have h2 := h2.later hb1
    have h3 := h3.later hb1
    go_wp2_with fail
    refine (clone_any a1 n1 c1 s1 w1 h1 g1).mono ?_
    rintro e w2 ⟨b1, d1, rfl, k1, hb2⟩
    have k0 := k0.later hb2
    have h2 := h2.later hb2
    have h3 := h3.later hb2
    replace hb2 := hb1.trans (hb2.mono hb1.size)
    go_wp2_with fail
    refine (clone_any a2 n2 c2 s2 w2 h2 g2).mono ?_
    rintro e w3 ⟨b2, d2, rfl, k2, hb3⟩
    have k0 := k0.later hb3
    have k1 := k1.later hb3
    have h3 := h3.later hb3
    replace hb3 := hb2.trans (hb3.mono hb2.size)
    go_wp2_with fail
    refine (clone_any a3 n3 c3 s3 w3 h3 g3).mono ?_
    rintro e w4 ⟨b3, d3, rfl, k3, hb4⟩
    have k0 := k0.later hb4
    have k1 := k1.later hb4
    have k2 := k2.later hb4
    replace hb4 := hb3.trans (hb4.mono hb3.size)
    go_wp2_with fail
    refine (mk_any b0 n0 d0 s0 b1 n1 d1 s1 w4 k0 k1 g0 g1).mono ?_
    rintro e w5 ⟨m0, rfl, hm0, hb5⟩
    have k2 := k2.later hb5
    have k3 := k3.later hb5
    replace hb5 := hb4.trans (hb5.mono hb4.size)
    clear k0 k1 h0 h1 h2 h3 hb1 hb2 hb3 hb4
    go_wp2_with fail
    refine (mk_any b2 n2 d2 s2 b3 n3 d3 s3 w5 k2 k3 g2 g3).mono ?_
    rintro e w6 ⟨m1, rfl, hm1, hb6⟩
    have hm0 := hm0.later hb6
    replace hb6 := hb5.trans (hb6.mono hb5.size)
    clear k2 k3 hb5
    obtain ⟨D0, hD0⟩ : ∃ D, D = puts (.map []) s0 s1 := ⟨_, rfl⟩
    obtain ⟨D1, hD1⟩ : ∃ D, D = puts (.map []) s2 s3 := ⟨_, rfl⟩
    rw [← hD0] at hm0
    rw [← hD1] at hm1
    clear hD0 hD1
    go_wp2_with fail
    have hbX : Below w6.heap.size w6 (w6.alloc (.cells #[.map m0, .slice none 0 0] 30)) := (Below.refl _ _).alloc (Nat.le_refl _) _
    have hm0 := hm0.later hbX
    have hm1 := hm1.later hbX
    refine (match0 m1 65536 D1 m0 65536 D0 _ hm1 hm0).mono ?_
    rintro e w7 ⟨⟨q1, rfl, hq1⟩, hb7⟩
    have hm0 := hm0.later hb7
    have hm1 := hm1.later hb7
    replace hb7 := hbX.trans (hb7.mono hbX.size)
    replace hb7 := hb6.trans (hb7.mono hb6.size)
    clear hb6 hbX
    have Hq1 : Hid (q1 = true ↔ Sub D1 D0) := hq1
    clear hq1
    go_wp2_with fail
    refine (zzholds_any m1 65536 D1 m0 65536 D0 w7 hm1 hm0).mono ?_
    rintro e w8 ⟨⟨q2, rfl, hq2⟩, hb8⟩
    replace hb8 := hb7.trans (hb8.mono hb7.size)
    clear hb7
    obtain rfl : q1 = q2 := by
      have := Hq1.out.trans hq2.symm
      cases q1 <;> cases q2 <;> simp_all
    clear hq2 Hq1
    go_wp2_with fail
    go_ret
    exact ⟨by simp, hb8⟩

end Go.Proofs.Qxb6001105a.Kube
