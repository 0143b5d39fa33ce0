/-
  FnMatchesOperatorComplements: the walk.
-/
import Derived.Test.Qxb6001105aSmall
import Derived.Test.Qxb6001105aZz18
namespace Go.Proofs.Qxb6001105a.Kube
open Go.RowKit Go.Maps Go.WideMaps

theorem bool_of_iff {a b : Bool} (h : a = true ↔ ¬ b = true) : a = !b := by
  cases a <;> cases b <;> simp_all

theorem lit_in : ((⟨#[73, 110]⟩ : ByteArray).toList == [73, 110]) = true := by rw [ByteArray.toList_eq]; rfl
theorem lit_notin : ((⟨#[78, 111, 116, 73, 110]⟩ : ByteArray).toList == [78, 111, 116, 73, 110]) = true := by rw [ByteArray.toList_eq]; rfl
theorem lit_exists : ((⟨#[69, 120, 105, 115, 116, 115]⟩ : ByteArray).toList == [69, 120, 105, 115, 116, 115]) = true := by rw [ByteArray.toList_eq]; rfl
theorem lit_dne : ((⟨#[68, 111, 101, 115, 78, 111, 116, 69, 120, 105, 115, 116]⟩ : ByteArray).toList == [68, 111, 101, 115, 78, 111, 116, 69, 120, 105, 115, 116]) = true := by rw [ByteArray.toList_eq]; rfl

theorem complement_in {D : DataW Unit} {key : ByteArray} {vs : List ByteArray} {q1 q2 : Bool} (h1 : q1 = true ↔ Sub D (.map []) ∧ Met D key ⟨#[73, 110]⟩ vs)
    (h2 : q2 = true ↔ Sub D (.map []) ∧ Met D key ⟨#[78, 111, 116, 73, 110]⟩ vs) : q2 = !q1 :=
  bool_of_iff (by
    rw [h2, h1, met_in lit_in, met_notin lit_notin]
    simp [sub_nil])

theorem complement_ex {D : DataW Unit} {key : ByteArray} {vs : List ByteArray} {q3 q4 : Bool} (h3 : q3 = true ↔ Sub D (.map []) ∧ Met D key ⟨#[69, 120, 105, 115, 116, 115]⟩ vs)
    (h4 : q4 = true ↔ Sub D (.map []) ∧ Met D key ⟨#[68, 111, 101, 115, 78, 111, 116, 69, 120, 105, 115, 116]⟩ vs) : q4 = !q3 :=
  bool_of_iff (by
    rw [h3, h4, met_exists lit_exists, met_dne lit_dne]
    simp [sub_nil])

theorem in_exists {D : DataW Unit} {key : ByteArray} {vs : List ByteArray} {q1 q3 : Bool} (h1 : q1 = true ↔ Sub D (.map []) ∧ Met D key ⟨#[73, 110]⟩ vs)
    (h3 : q3 = true ↔ Sub D (.map []) ∧ Met D key ⟨#[69, 120, 105, 115, 116, 115]⟩ vs) : q1 = true → q3 = true := by
  intro h
  have h' := h1.1 h
  exact h3.2 ⟨h'.1, (met_exists lit_exists).2 ((met_in lit_in).1 h'.2).1⟩

set_option maxRecDepth 100000 in
set_option maxHeartbeats 2000000 in
theorem walk6 (a0 : Option Addr) (n0 c0 : Nat) (s0 : List ByteArray) (a1 : Option Addr) (n1 c1 : Nat) (s1 : List ByteArray) (s2 : ByteArray) (a3 : Option Addr) (n3 c3 : Nat) (s3 : List ByteArray) (w : World)
    (h0 : SRow w a0 n0 c0 s0) (h1 : SRow w a1 n1 c1 s1) (h2 : s2.size ≤ maxLen) (h3 : SRow w a3 n3 c3 s3) :
    Calls Try.prog 6 #[.slice a0 n0 c0, .slice a1 n1 c1, .string s2, .slice a3 n3 c3] w fun e w' => e = .returned (.bool true) ∧ Below w.heap.size w w' := by
  go_enter Try.func6, Try.ntmps6
  go_wp2_with fail
  refine (zz18 a0 n0 c0 s0 a1 n1 c1 s1 s2 a3 n3 c3 s3 w h0 h1 h3).mono ?_
  rintro e w' ⟨⟨r, rfl⟩, hw⟩
  obtain rfl : w = w' := hw.symm
  cases r
  · go_wp2
    go_ret
    exact ⟨rfl, Below.refl _ _⟩
  · go_wp2_with fail
    any_goals (go_ret; exact ⟨rfl, Below.refl _ _⟩)
    have g0 : n0 ≤ 65536 := by omega
    have g1 : n1 ≤ 65536 := by omega
    have g3 : n3 ≤ 65536 := by omega
    refine (addBytes_any 0 a0 n0 c0 s0 w h0).mono ?_
    rintro e w' ⟨⟨r0, rfl⟩, hw⟩
    obtain rfl : w = w' := hw.symm
    go_wp2_with fail
    refine (addBytes_any r0 a1 n1 c1 s1 w h1).mono ?_
    rintro e w' ⟨⟨r1, rfl⟩, hw⟩
    obtain rfl : w = w' := hw.symm
    go_wp2_with fail
    refine (addLen_any r1 s2 w).mono ?_
    rintro e w' ⟨⟨r2, rfl⟩, hw⟩
    obtain rfl : w = w' := hw.symm
    go_wp2_with fail
    refine (addBytes_any r2 a3 n3 c3 s3 w h3).mono ?_
    rintro e w' ⟨⟨r3, rfl⟩, hw⟩
    obtain rfl : w = w' := hw.symm
    clear hw
    go_wp2_with fail
    any_goals (go_ret; exact ⟨rfl, Below.refl _ _⟩)
    refine (clone_any a0 n0 c0 s0 w h0 g0).mono ?_
    rintro e w1 ⟨b0, d0, rfl, k0, hb1⟩
    have h1 := h1.later hb1
    have h3 := h3.later hb1
    go_wp2_with fail
    refine (clone_any a1 n1 c1 s1 w1 h1 g1).mono ?_
    rintro e w2 ⟨b1, d1, rfl, k1, hb2⟩
    have k0 := k0.later hb2
    have h3 := h3.later hb2
    replace hb2 := hb1.trans (hb2.mono hb1.size)
    go_wp2_with fail
    refine (clone_any a3 n3 c3 s3 w2 h3 g3).mono ?_
    rintro e w3 ⟨b3, d3, rfl, k3, hb3⟩
    have k0 := k0.later hb3
    have k1 := k1.later hb3
    replace hb3 := hb2.trans (hb3.mono hb2.size)
    go_wp2_with fail
    refine (mk_any b0 n0 d0 s0 b1 n1 d1 s1 w3 k0 k1 g0 g1).mono ?_
    rintro e w4 ⟨m, rfl, hm, hb4⟩
    have k3 := k3.later hb4
    replace hb4 := hb3.trans (hb4.mono hb3.size)
    obtain ⟨D, hD⟩ : ∃ D, D = puts (.map []) s0 s1 := ⟨_, rfl⟩
    rw [← hD] at hm
    clear hD k0 k1 h0 h1 h3 hb1 hb2 hb3
    go_wp2_with fail
    refine (req_any s2 ⟨#[73, 110]⟩ b3 n3 d3 _).mono ?_
    rintro e w5 ⟨rfl, hb5⟩
    have k3 := k3.later hb5
    have hm := hm.later hb5
    replace hb5 := hb4.trans (hb5.mono hb4.size)
    clear hb4
    go_wp2_with fail
    refine (req_any s2 ⟨#[78, 111, 116, 73, 110]⟩ b3 n3 d3 _).mono ?_
    rintro e w6 ⟨rfl, hb6⟩
    have hX := below_made w5 (.cells #[.string s2, .string ⟨#[73, 110]⟩, .slice b3 n3 d3] 37) (.cells #[.map none, .slice (some ⟨w5.heap.size, 0, none⟩) 1 1] 30)
    have S1 := (SelAt.made w5 none s2 ⟨#[73, 110]⟩ b3 n3 d3).later hb6
    replace hb6 := hX.trans (hb6.mono hX.size)
    have k3 := k3.later hb6
    have hm := hm.later hb6
    replace hb6 := hb5.trans (hb6.mono hb5.size)
    clear hb5 hX
    go_wp2_with fail
    refine (req_any s2 ⟨#[69, 120, 105, 115, 116, 115]⟩ b3 n3 d3 _).mono ?_
    rintro e w7 ⟨rfl, hb7⟩
    have hX := below_made w6 (.cells #[.string s2, .string ⟨#[78, 111, 116, 73, 110]⟩, .slice b3 n3 d3] 37) (.cells #[.map none, .slice (some ⟨w6.heap.size, 0, none⟩) 1 1] 30)
    have S2 := (SelAt.made w6 none s2 ⟨#[78, 111, 116, 73, 110]⟩ b3 n3 d3).later hb7
    replace hb7 := hX.trans (hb7.mono hX.size)
    have S1 := S1.later hb7
    have k3 := k3.later hb7
    have hm := hm.later hb7
    replace hb7 := hb6.trans (hb7.mono hb6.size)
    clear hb6 hX
    go_wp2_with fail
    refine (req_any s2 ⟨#[68, 111, 101, 115, 78, 111, 116, 69, 120, 105, 115, 116]⟩ b3 n3 d3 _).mono ?_
    rintro e w8 ⟨rfl, hb8⟩
    have hX := below_made w7 (.cells #[.string s2, .string ⟨#[69, 120, 105, 115, 116, 115]⟩, .slice b3 n3 d3] 37) (.cells #[.map none, .slice (some ⟨w7.heap.size, 0, none⟩) 1 1] 30)
    have S3 := (SelAt.made w7 none s2 ⟨#[69, 120, 105, 115, 116, 115]⟩ b3 n3 d3).later hb8
    replace hb8 := hX.trans (hb8.mono hX.size)
    have S1 := S1.later hb8
    have S2 := S2.later hb8
    have k3 := k3.later hb8
    have hm := hm.later hb8
    replace hb8 := hb7.trans (hb8.mono hb7.size)
    clear hb7 hX
    have t0 := S1.s0
    have t1 := S1.s1
    have t2 := cell_lt S1.s0
    have t3 : w5.heap.size < w8.heap.size := by omega
    go_wp2_with fail
    have hX := below_made w8 (.cells #[.string s2, .string ⟨#[68, 111, 101, 115, 78, 111, 116, 69, 120, 105, 115, 116]⟩, .slice b3 n3 d3] 37) (.cells #[.map none, .slice (some ⟨w8.heap.size, 0, none⟩) 1 1] 30)
    have S1 := S1.later hX
    have S2 := S2.later hX
    have S3 := S3.later hX
    have S4 := SelAt.made w8 none s2 ⟨#[68, 111, 101, 115, 78, 111, 116, 69, 120, 105, 115, 116]⟩ b3 n3 d3
    have k3 := k3.later hX
    have hm := hm.later hX
    replace hX := hb8.trans (hX.mono hb8.size)
    clear hb8 t0 t1 t2 t3
    refine (match1 m 65536 D none 0 (.map []) w5.heap.size s2 ⟨#[73, 110]⟩ b3 n3 d3 s3 _ hm rfl S1.c0 S1.c1 S1.c2 k3 h2).mono ?_
    rintro e w9 ⟨⟨q1, rfl, hq1⟩, hb9⟩
    have Q1 : Hid (q1 = true ↔ Sub D (.map []) ∧ Met D s2 ⟨#[73, 110]⟩ s3) := hq1
    have S2 := S2.later hb9
    have S3 := S3.later hb9
    have S4 := S4.later hb9
    have k3 := k3.later hb9
    have hm := hm.later hb9
    replace hb9 := hX.trans (hb9.mono hX.size)
    clear hX hq1
    have t0 := S2.s0
    have t1 := S2.s1
    go_wp2_with fail
    clear t0 t1
    refine (match1 m 65536 D none 0 (.map []) w6.heap.size s2 ⟨#[78, 111, 116, 73, 110]⟩ b3 n3 d3 s3 _ hm rfl S2.c0 S2.c1 S2.c2 k3 h2).mono ?_
    rintro e w10 ⟨⟨q2, rfl, hq2⟩, hb10⟩
    have Q2 : Hid (q2 = true ↔ Sub D (.map []) ∧ Met D s2 ⟨#[78, 111, 116, 73, 110]⟩ s3) := hq2
    have S3 := S3.later hb10
    have S4 := S4.later hb10
    have k3 := k3.later hb10
    have hm := hm.later hb10
    replace hb10 := hb9.trans (hb10.mono hb9.size)
    clear hb9 hq2
    have t0 := S3.s0
    have t1 := S3.s1
    go_wp2_with fail
    clear t0 t1
    refine (match1 m 65536 D none 0 (.map []) w7.heap.size s2 ⟨#[69, 120, 105, 115, 116, 115]⟩ b3 n3 d3 s3 _ hm rfl S3.c0 S3.c1 S3.c2 k3 h2).mono ?_
    rintro e w11 ⟨⟨q3, rfl, hq3⟩, hb11⟩
    have Q3 : Hid (q3 = true ↔ Sub D (.map []) ∧ Met D s2 ⟨#[69, 120, 105, 115, 116, 115]⟩ s3) := hq3
    have S4 := S4.later hb11
    have k3 := k3.later hb11
    have hm := hm.later hb11
    replace hb11 := hb10.trans (hb11.mono hb10.size)
    clear hb10 hq3
    have t0 := S4.s0
    have t1 := S4.s1
    go_wp2_with fail
    clear t0 t1
    refine (match1 m 65536 D none 0 (.map []) w8.heap.size s2 ⟨#[68, 111, 101, 115, 78, 111, 116, 69, 120, 105, 115, 116]⟩ b3 n3 d3 s3 _ hm rfl S4.c0 S4.c1 S4.c2 k3 h2).mono ?_
    rintro e w12 ⟨⟨q4, rfl, hq4⟩, hb12⟩
    have Q4 : Hid (q4 = true ↔ Sub D (.map []) ∧ Met D s2 ⟨#[68, 111, 101, 115, 78, 111, 116, 69, 120, 105, 115, 116]⟩ s3) := hq4
    replace hb12 := hb11.trans (hb12.mono hb11.size)
    clear hb11 hq4
    have e2 : Hid (q2 = !q1) := complement_in Q1.out Q2.out
    have e4 : Hid (q4 = !q3) := complement_ex Q3.out Q4.out
    have e3 : Hid (q1 = true → q3 = true) := in_exists Q1.out Q3.out
    clear Q1 Q2 Q3 Q4
    cases q1 <;> cases q2 <;> cases q3 <;> cases q4
    any_goals (exfalso; first | (cases e2; done) | (cases e4; done) | (cases e3.out rfl; done))
    all_goals
      clear e2 e3 e4
      go_wp2_with fail
      go_ret
      exact ⟨rfl, hb12⟩

end Go.Proofs.Qxb6001105a.Kube
