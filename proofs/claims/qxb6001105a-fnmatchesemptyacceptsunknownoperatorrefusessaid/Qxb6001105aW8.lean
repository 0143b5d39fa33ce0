/-
  FnMatchesEmptyAcceptsUnknownOperatorRefuses: the walk.
-/
import Derived.Test.Qxb6001105aSmall
import Derived.Test.Qxb6001105aZz22
namespace Go.Proofs.Qxb6001105a.Kube
open Go.RowKit Go.Maps Go.WideMaps

theorem met_none {D : DataW Unit} {key op : ByteArray} {vs : List ByteArray} (h : isOpB op = false) : ¬ Met D key op vs := by
  simp only [isOpB, Bool.or_eq_false_iff] at h
  exact met_other h.1.1.1 h.1.1.2 h.1.2 h.2

set_option maxRecDepth 100000 in
set_option maxHeartbeats 2000000 in
theorem walk8 (a0 : Option Addr) (n0 c0 : Nat) (s0 : List ByteArray) (a1 : Option Addr) (n1 c1 : Nat) (s1 : List ByteArray) (s2 s3 : ByteArray) (a4 : Option Addr) (n4 c4 : Nat) (s4 : List ByteArray) (w : World)
    (h0 : SRow w a0 n0 c0 s0) (h1 : SRow w a1 n1 c1 s1) (h2 : s2.size ≤ maxLen) (_h3 : s3.size ≤ maxLen) (h4 : SRow w a4 n4 c4 s4) :
    Calls Try.prog 8 #[.slice a0 n0 c0, .slice a1 n1 c1, .string s2, .string s3, .slice a4 n4 c4] w fun e w' => e = .returned (.bool true) ∧ Below w.heap.size w w' := by
  go_enter Try.func8, Try.ntmps8
  go_wp2_with fail
  refine (zz22 a0 n0 c0 s0 a1 n1 c1 s1 s2 s3 a4 n4 c4 s4 w h0 h1 h4).mono ?_
  rintro e w' ⟨⟨r, rfl⟩, hw⟩
  obtain rfl : w = w' := hw.symm
  cases r
  · go_wp2
    go_ret
    exact ⟨rfl, Below.refl _ _⟩
  · go_wp2_with fail
    any_goals (go_ret; exact ⟨rfl, Below.refl _ _⟩)
    have g0 : n0 ≤ 65536 := by omega
    have g1 : n1 ≤ 65536 := by omega
    have g4 : n4 ≤ 65536 := by omega
    refine (addBytes_any 0 a0 n0 c0 s0 w h0).mono ?_
    rintro e w' ⟨⟨r0, rfl⟩, hw⟩
    obtain rfl : w = w' := hw.symm
    go_wp2_with fail
    refine (addBytes_any r0 a1 n1 c1 s1 w h1).mono ?_
    rintro e w' ⟨⟨r1, rfl⟩, hw⟩
    obtain rfl : w = w' := hw.symm
    go_wp2_with fail
    refine (addLen_any r1 s2 w).mono ?_
    rintro e w' ⟨⟨r2, rfl⟩, hw⟩
    obtain rfl : w = w' := hw.symm
    go_wp2_with fail
    refine (addLen_any r2 s3 w).mono ?_
    rintro e w' ⟨⟨r3, rfl⟩, hw⟩
    obtain rfl : w = w' := hw.symm
    go_wp2_with fail
    refine (addBytes_any r3 a4 n4 c4 s4 w h4).mono ?_
    rintro e w' ⟨⟨r4, rfl⟩, hw⟩
    obtain rfl : w = w' := hw.symm
    clear hw
    go_wp2_with fail
    any_goals (go_ret; exact ⟨rfl, Below.refl _ _⟩)
    refine (clone_any a0 n0 c0 s0 w h0 g0).mono ?_
    rintro e w1 ⟨b0, d0, rfl, k0, hb1⟩
    have h1 := h1.later hb1
    have h4 := h4.later hb1
    go_wp2_with fail
    refine (clone_any a1 n1 c1 s1 w1 h1 g1).mono ?_
    rintro e w2 ⟨b1, d1, rfl, k1, hb2⟩
    have k0 := k0.later hb2
    have h4 := h4.later hb2
    replace hb2 := hb1.trans (hb2.mono hb1.size)
    go_wp2_with fail
    refine (clone_any a4 n4 c4 s4 w2 h4 g4).mono ?_
    rintro e w3 ⟨b4, d4, rfl, k4, hb3⟩
    have k0 := k0.later hb3
    have k1 := k1.later hb3
    replace hb3 := hb2.trans (hb3.mono hb2.size)
    go_wp2_with fail
    refine (mk_any b0 n0 d0 s0 b1 n1 d1 s1 w3 k0 k1 g0 g1).mono ?_
    rintro e w4 ⟨m, rfl, hm, hb4⟩
    have k4 := k4.later hb4
    replace hb4 := hb3.trans (hb4.mono hb3.size)
    obtain ⟨D, hD⟩ : ∃ D, D = puts (.map []) s0 s1 := ⟨_, rfl⟩
    rw [← hD] at hm
    clear hD k0 k1 h0 h1 h4 hb1 hb2 hb3
    go_wp2_with fail
    have hX : Below w4.heap.size w4 (w4.alloc (.cells #[.map none, .slice none 0 0] 30)) := (Below.refl _ _).alloc (Nat.le_refl _) _
    have hm := hm.later hX
    have k4 := k4.later hX
    replace hX := hb4.trans (hX.mono hb4.size)
    clear hb4
    refine (match0 m 65536 D none 0 (.map []) _ hm rfl).mono ?_
    rintro e w5 ⟨⟨q1, rfl, hq1⟩, hb5⟩
    obtain rfl : q1 = true := hq1.2 (sub_nil D)
    have hm := hm.later hb5
    have k4 := k4.later hb5
    replace hb5 := hX.trans (hb5.mono hX.size)
    clear hX hq1
    go_wp2_with fail
    refine (isOp_any s3 w5).mono ?_
    rintro e w' ⟨rfl, hw⟩
    obtain rfl : w5 = w' := hw.symm
    clear hw
    cases hop : isOpB s3
    · have Hop : Hid (isOpB s3 = false) := hop
      clear hop
      go_wp2_with fail
      refine (req_any s2 s3 b4 n4 d4 w5).mono ?_
      rintro e w6 ⟨rfl, hb6⟩
      have hm := hm.later hb6
      have k4 := k4.later hb6
      replace hb6 := hb5.trans (hb6.mono hb5.size)
      clear hb5
      go_wp2_with fail
      have hX := below_made w6 (.cells #[.string s2, .string s3, .slice b4 n4 d4] 37) (.cells #[.map none, .slice (some ⟨w6.heap.size, 0, none⟩) 1 1] 30)
      have S1 := SelAt.made w6 none s2 s3 b4 n4 d4
      have hm := hm.later hX
      have k4 := k4.later hX
      replace hX := hb6.trans (hX.mono hb6.size)
      clear hb6
      refine (match1 m 65536 D none 0 (.map []) w6.heap.size s2 s3 b4 n4 d4 s4 _ hm rfl S1.c0 S1.c1 S1.c2 k4 h2).mono ?_
      rintro e w7 ⟨⟨q2, rfl, hq2⟩, hb7⟩
      replace hb7 := hX.trans (hb7.mono hX.size)
      obtain rfl : q2 = false := by
        cases q2
        · rfl
        · exact absurd (hq2.1 rfl).2 (met_none Hop.out)
      clear hX hq2 Hop
      go_wp2_with fail
      go_ret
      exact ⟨rfl, hb7⟩
    · clear hop
      go_wp2_with fail
      go_ret
      exact ⟨rfl, hb5⟩

end Go.Proofs.Qxb6001105a.Kube
