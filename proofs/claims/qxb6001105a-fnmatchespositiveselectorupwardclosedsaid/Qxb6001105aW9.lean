/-
  FnMatchesPositiveSelectorUpwardClosed: the walk.
-/
import Derived.Test.Qxb6001105aSmall
import Derived.Test.Qxb6001105aZz24
namespace Go.Proofs.Qxb6001105a.Kube
open Go.RowKit Go.Maps Go.WideMaps

/-! ### the plain law: what is laid over a greater map -/
theorem sub_put {E D : DataW Unit} (h : Sub E D) (hE : IsMap E) (hD : IsMap D) {k : Lit} (hk : WideAt.IsKeyLit k) (d : DataW Unit) : Sub (E.put k d) (D.put k d) := by
  intro kl hkl
  by_cases e : kl = k
  · subst e
    exact ⟨has_put_same hE hk d, fun z => by rw [atKey_put_same hE hk, atKey_put_same hD hk]⟩
  · rw [has_put_other e] at hkl
    obtain ⟨h1, h2⟩ := h kl hkl
    exact ⟨by rw [has_put_other e]; exact h1, fun z => by rw [atKey_put_other e, atKey_put_other e]; exact h2 z⟩

theorem sub_fold : ∀ (l : List (ByteArray × ByteArray)) (E D : DataW Unit), Sub E D → IsMap E → IsMap D →
    Sub (l.foldl (fun m p => m.put (.string p.1.data.toList) (.lit (.string p.2.data.toList))) E) (l.foldl (fun m p => m.put (.string p.1.data.toList) (.lit (.string p.2.data.toList))) D)
  | [], _, _, h, _, _ => h
  | p :: r, _, _, h, hE, hD => sub_fold r _ _ (sub_put h hE hD (k := .string p.1.data.toList) trivial _) (hE.put _ _) (hD.put _ _)

theorem isMap_fold : ∀ (l : List (ByteArray × ByteArray)) (E : DataW Unit), IsMap E → IsMap (l.foldl (fun m p => m.put (.string p.1.data.toList) (.lit (.string p.2.data.toList))) E)
  | [], _, h => h
  | _ :: r, _, h => isMap_fold r _ (h.put _ _)

theorem sub_puts (ks vs ks' vs' : List ByteArray) : Sub (puts (puts (.map []) ks' vs') ks vs) (puts (.map []) ks vs) :=
  sub_fold (ks.zip vs) _ _ (sub_nil _) (isMap_fold _ _ isMap_empty) isMap_empty

theorem sub_trans {A B C : DataW Unit} (h : Sub A B) (h' : Sub B C) : Sub A C := by
  intro kl hk
  obtain ⟨h1, h2⟩ := h' kl hk
  obtain ⟨h3, h4⟩ := h kl h1
  exact ⟨h3, fun z => (h4 z).trans (h2 z)⟩

theorem met_up {A B : DataW Unit} {key op : ByteArray} {vs : List ByteArray} (h : Sub A B) (hop : (op.toList == [73, 110]) = true ∨ (op.toList == [69, 120, 105, 115, 116, 115]) = true)
    (hm : Met B key op vs) : Met A key op vs := by
  rcases hop with hop | hop
  · obtain ⟨h1, s, hs, h2⟩ := (met_in hop).1 hm
    obtain ⟨h3, h4⟩ := h _ h1
    exact (met_in hop).2 ⟨h3, s, hs, (h4 _).trans h2⟩
  · exact (met_exists hop).2 (h _ ((met_exists hop).1 hm)).1

set_option maxRecDepth 100000 in
set_option maxHeartbeats 8000000 in
theorem walk9 (a0 : Option Addr) (n0 c0 : Nat) (s0 : List ByteArray) (a1 : Option Addr) (n1 c1 : Nat) (s1 : List ByteArray) (a2 : Option Addr) (n2 c2 : Nat) (s2 : List ByteArray) (a3 : Option Addr) (n3 c3 : Nat) (s3 : List ByteArray) (a4 : Option Addr) (n4 c4 : Nat) (s4 : List ByteArray) (a5 : Option Addr) (n5 c5 : Nat) (s5 : List ByteArray) (s6 : ByteArray) (s7 : ByteArray) (a8 : Option Addr) (n8 c8 : Nat) (s8 : List ByteArray) (w : World)
    (h0 : SRow w a0 n0 c0 s0) (h1 : SRow w a1 n1 c1 s1) (h2 : SRow w a2 n2 c2 s2) (h3 : SRow w a3 n3 c3 s3) (h4 : SRow w a4 n4 c4 s4) (h5 : SRow w a5 n5 c5 s5) (h6 : s6.size ≤ maxLen) (_h7 : s7.size ≤ maxLen) (h8 : SRow w a8 n8 c8 s8) :
    Calls Try.prog 9 #[.slice a0 n0 c0, .slice a1 n1 c1, .slice a2 n2 c2, .slice a3 n3 c3, .slice a4 n4 c4, .slice a5 n5 c5, .string s6, .string s7, .slice a8 n8 c8] w fun e w' => e = .returned (.bool true) ∧ Below w.heap.size w w' := by
  go_enter Try.func9, Try.ntmps9
  go_wp2_with fail
  refine (zz24 a0 n0 c0 s0 a1 n1 c1 s1 a2 n2 c2 s2 a3 n3 c3 s3 a4 n4 c4 s4 a5 n5 c5 s5 s6 s7 a8 n8 c8 s8 w h0 h1 h2 h3 h4 h5 h8).mono ?_
  rintro e w' ⟨⟨r, rfl⟩, hw⟩
  obtain rfl : w = w' := hw.symm
  cases r
  · go_wp2
    go_ret
    exact ⟨rfl, Below.refl _ _⟩
  · go_wp2_with fail
    any_goals (go_ret; exact ⟨rfl, Below.refl _ _⟩)
    have g0 : n0 ≤ 65536 := by omega
    have g1 : n1 ≤ 65536 := by omega
    have g2 : n2 ≤ 65536 := by omega
    have g3 : n3 ≤ 65536 := by omega
    have g4 : n4 ≤ 65536 := by omega
    have g5 : n5 ≤ 65536 := by omega
    have g8 : n8 ≤ 65536 := by omega
    refine (addBytes_any 0 a0 n0 c0 s0 w h0).mono ?_
    rintro e w' ⟨⟨r0, rfl⟩, hw⟩
    obtain rfl : w = w' := hw.symm
    clear hw
    go_wp2_with fail
    refine (addBytes_any r0 a1 n1 c1 s1 w h1).mono ?_
    rintro e w' ⟨⟨r1, rfl⟩, hw⟩
    obtain rfl : w = w' := hw.symm
    clear hw
    go_wp2_with fail
    refine (addBytes_any r1 a2 n2 c2 s2 w h2).mono ?_
    rintro e w' ⟨⟨r2, rfl⟩, hw⟩
    obtain rfl : w = w' := hw.symm
    clear hw
    go_wp2_with fail
    refine (addBytes_any r2 a3 n3 c3 s3 w h3).mono ?_
    rintro e w' ⟨⟨r3, rfl⟩, hw⟩
    obtain rfl : w = w' := hw.symm
    clear hw
    go_wp2_with fail
    refine (addBytes_any r3 a4 n4 c4 s4 w h4).mono ?_
    rintro e w' ⟨⟨r4, rfl⟩, hw⟩
    obtain rfl : w = w' := hw.symm
    clear hw
    go_wp2_with fail
    refine (addBytes_any r4 a5 n5 c5 s5 w h5).mono ?_
    rintro e w' ⟨⟨r5, rfl⟩, hw⟩
    obtain rfl : w = w' := hw.symm
    clear hw
    go_wp2_with fail
    refine (addLen_any r5 s6 w).mono ?_
    rintro e w' ⟨⟨r6, rfl⟩, hw⟩
    obtain rfl : w = w' := hw.symm
    clear hw
    go_wp2_with fail
    refine (addLen_any r6 s7 w).mono ?_
    rintro e w' ⟨⟨r7, rfl⟩, hw⟩
    obtain rfl : w = w' := hw.symm
    clear hw
    go_wp2_with fail
    refine (addBytes_any r7 a8 n8 c8 s8 w h8).mono ?_
    rintro e w' ⟨⟨r8, rfl⟩, hw⟩
    obtain rfl : w = w' := hw.symm
    clear hw
    go_wp2_with fail
    any_goals (go_ret; exact ⟨rfl, Below.refl _ _⟩)
    all_goals
      have Hop : Hid ((s7.toList == [73, 110]) = true ∨ (s7.toList == [69, 120, 105, 115, 116, 115]) = true) := by
        first
        | (have h : s7.toList = [73, 110] := by assumption
           exact Or.inl (by rw [h]; rfl))
        | (have h : (!s7.toList == [73, 110]) = false ∨ (!s7.toList == [69, 120, 105, 115, 116, 115]) = false := by assumption
           exact h.elim (fun h => Or.inl (by simpa using h)) (fun h => Or.inr (by simpa using h)))
      refine (clone_any a0 n0 c0 s0 w h0 g0).mono ?_
      rintro e w1 ⟨b0, d0, rfl, k0, hb1⟩
      have h1 := h1.later hb1
      have h2 := h2.later hb1
      have h3 := h3.later hb1
      have h4 := h4.later hb1
      have h5 := h5.later hb1
      have h8 := h8.later hb1
      go_wp2_with fail
      refine (clone_any a1 n1 c1 s1 w1 h1 g1).mono ?_
      rintro e w2 ⟨b1, d1, rfl, k1, hb2⟩
      have h2 := h2.later hb2
      have h3 := h3.later hb2
      have h4 := h4.later hb2
      have h5 := h5.later hb2
      have h8 := h8.later hb2
      have k0 := k0.later hb2
      replace hb2 := hb1.trans (hb2.mono hb1.size)
      clear hb1
      go_wp2_with fail
      refine (clone_any a2 n2 c2 s2 w2 h2 g2).mono ?_
      rintro e w3 ⟨b2, d2, rfl, k2, hb3⟩
      have h3 := h3.later hb3
      have h4 := h4.later hb3
      have h5 := h5.later hb3
      have h8 := h8.later hb3
      have k0 := k0.later hb3
      have k1 := k1.later hb3
      replace hb3 := hb2.trans (hb3.mono hb2.size)
      clear hb2
      go_wp2_with fail
      refine (clone_any a3 n3 c3 s3 w3 h3 g3).mono ?_
      rintro e w4 ⟨b3, d3, rfl, k3, hb4⟩
      have h4 := h4.later hb4
      have h5 := h5.later hb4
      have h8 := h8.later hb4
      have k0 := k0.later hb4
      have k1 := k1.later hb4
      have k2 := k2.later hb4
      replace hb4 := hb3.trans (hb4.mono hb3.size)
      clear hb3
      go_wp2_with fail
      refine (clone_any a4 n4 c4 s4 w4 h4 g4).mono ?_
      rintro e w5 ⟨b4, d4, rfl, k4, hb5⟩
      have h5 := h5.later hb5
      have h8 := h8.later hb5
      have k0 := k0.later hb5
      have k1 := k1.later hb5
      have k2 := k2.later hb5
      have k3 := k3.later hb5
      replace hb5 := hb4.trans (hb5.mono hb4.size)
      clear hb4
      go_wp2_with fail
      refine (clone_any a5 n5 c5 s5 w5 h5 g5).mono ?_
      rintro e w6 ⟨b5, d5, rfl, k5, hb6⟩
      have h8 := h8.later hb6
      have k0 := k0.later hb6
      have k1 := k1.later hb6
      have k2 := k2.later hb6
      have k3 := k3.later hb6
      have k4 := k4.later hb6
      replace hb6 := hb5.trans (hb6.mono hb5.size)
      clear hb5
      go_wp2_with fail
      refine (clone_any a8 n8 c8 s8 w6 h8 g8).mono ?_
      rintro e w7 ⟨b8, d8, rfl, k8, hb7⟩
      have k0 := k0.later hb7
      have k1 := k1.later hb7
      have k2 := k2.later hb7
      have k3 := k3.later hb7
      have k4 := k4.later hb7
      have k5 := k5.later hb7
      replace hb7 := hb6.trans (hb7.mono hb6.size)
      clear hb6
      go_wp2_with fail
      refine (mk_any b0 n0 d0 s0 b1 n1 d1 s1 w7 k0 k1 g0 g1).mono ?_
      rintro e w8 ⟨m0, rfl, hm0, hb8⟩
      have k0 := k0.later hb8
      have k1 := k1.later hb8
      have k2 := k2.later hb8
      have k3 := k3.later hb8
      have k4 := k4.later hb8
      have k5 := k5.later hb8
      have k8 := k8.later hb8
      replace hb8 := hb7.trans (hb8.mono hb7.size)
      clear hb7
      have hmm := run_makeMap_hint
      have hX : Below w8.heap.size w8 (w8.alloc (.map #[] 0)) := (Below.refl _ _).alloc (Nat.le_refl _) _
      have hM : (w8.alloc (.map #[] 0)).ownsMap Try.prog 9 (plainElem (H := Unit) Try.prog 9) w8.heap.size 0 (.map []) := World.ownsMap_made _ _ _ _
      have x2 := k2.later hX
      have x3 := k3.later hX
      go_wp2_with fail
      clear hmm
      refine (put_any w8.heap.size 0 (.map []) b2 n2 d2 s2 b3 n3 d3 s3 _ hM x2 x3 (by omega) g2 g3).mono ?_
      rintro e w9 ⟨rfl, hM9, hg9⟩
      have hb9 : Below w8.heap.size w8 w9 := hX.grown hg9 (by simp) (fun j hj => by cases hj; exact Nat.le_refl _)
      clear x2 x3 k2 k3 hX hM hg9
      have x0 := k0.later hb9
      have x1 := k1.later hb9
      go_wp2_with fail
      refine (put_any w8.heap.size (0 + n2) _ b0 n0 d0 s0 b1 n1 d1 s1 w9 hM9 x0 x1 (by omega) g0 g1).mono ?_
      rintro e w10 ⟨rfl, hM10, hg10⟩
      have hb10 : Below w8.heap.size w8 w10 := hb9.grown hg10 hb9.size (fun j hj => by cases hj; exact Nat.le_refl _)
      clear x0 x1 k0 k1 hb9 hg10 hM9
      have hm0 := hm0.later hb10
      have k4 := k4.later hb10
      have k5 := k5.later hb10
      have k8 := k8.later hb10
      replace hb10 := hb8.trans (hb10.mono hb8.size)
      clear hb8
      obtain ⟨Db, hDb⟩ : ∃ D, D = puts (puts (.map []) s2 s3) s0 s1 := ⟨_, rfl⟩
      obtain ⟨Dm, hDm⟩ : ∃ D, D = puts (.map []) s0 s1 := ⟨_, rfl⟩
      have hsub : Hid (Sub Db Dm) := by rw [hDb, hDm]; exact sub_puts _ _ _ _
      have hbig : MapIs w10 (some w8.heap.size) (0 + n2 + n0) Db := by rw [hDb]; exact hM10
      rw [← hDm] at hm0
      clear hDb hDm hM10
      go_wp2_with fail
      refine (zzholds_any (some w8.heap.size) (0 + n2 + n0) Db m0 65536 Dm w10 hbig hm0).mono ?_
      rintro e w11 ⟨⟨q1, rfl, hq1⟩, hb11⟩
      obtain rfl : q1 = true := hq1.2 hsub.out
      have hm0 := hm0.later hb11
      have hbig := hbig.later hb11
      have k4 := k4.later hb11
      have k5 := k5.later hb11
      have k8 := k8.later hb11
      replace hb11 := hb10.trans (hb11.mono hb10.size)
      clear hb10 hq1
      go_wp2_with fail
      refine (mk_any b4 n4 d4 s4 b5 n5 d5 s5 w11 k4 k5 g4 g5).mono ?_
      rintro e w12 ⟨m2, rfl, hm2, hb12⟩
      have hm0 := hm0.later hb12
      have hbig := hbig.later hb12
      have k8 := k8.later hb12
      obtain ⟨Ds, hDs⟩ : ∃ D, D = puts (.map []) s4 s5 := ⟨_, rfl⟩
      rw [← hDs] at hm2
      replace hb12 := hb11.trans (hb12.mono hb11.size)
      clear hb11 hDs k4 k5
      go_wp2_with fail
      refine (req_any s6 s7 b8 n8 d8 w12).mono ?_
      rintro e w13 ⟨rfl, hb13⟩
      have hm0 := hm0.later hb13
      have hm2 := hm2.later hb13
      have hbig := hbig.later hb13
      have k8 := k8.later hb13
      replace hb13 := hb12.trans (hb13.mono hb12.size)
      clear hb12
      go_wp2_with fail
      have hX := below_made w13 (.cells #[.string s6, .string s7, .slice b8 n8 d8] 37) (.cells #[.map m2, .slice (some ⟨w13.heap.size, 0, none⟩) 1 1] 30)
      have S1 := SelAt.made w13 m2 s6 s7 b8 n8 d8
      have hm0 := hm0.later hX
      have hm2 := hm2.later hX
      have hbig := hbig.later hX
      have k8 := k8.later hX
      replace hX := hb13.trans (hX.mono hb13.size)
      clear hb13
      refine (match1 m0 65536 Dm m2 65536 Ds w13.heap.size s6 s7 b8 n8 d8 s8 _ hm0 hm2 S1.c0 S1.c1 S1.c2 k8 h6).mono ?_
      rintro e w14 ⟨⟨q2, rfl, hq2⟩, hb14⟩
      have S1 := S1.later hb14
      have hm2 := hm2.later hb14
      have hbig := hbig.later hb14
      have k8 := k8.later hb14
      replace hb14 := hX.trans (hb14.mono hX.size)
      clear hX
      cases q2
      · clear hq2
        go_wp2_with fail
        go_ret
        exact ⟨rfl, hb14⟩
      · have hmatch : Hid (Sub Dm Ds ∧ Met Dm s6 s7 s8) := hq2.1 rfl
        clear hq2
        have t0 := S1.s0
        have t1 := S1.s1
        go_wp2_with fail
        clear t0 t1
        refine (match1 (some w8.heap.size) (0 + n2 + n0) Db m2 65536 Ds w13.heap.size s6 s7 b8 n8 d8 s8 _ hbig hm2 S1.c0 S1.c1 S1.c2 k8 h6).mono ?_
        rintro e w15 ⟨⟨q3, rfl, hq3⟩, hb15⟩
        obtain rfl : q3 = true := hq3.2 ⟨sub_trans hsub.out hmatch.out.1, met_up hsub.out Hop.out hmatch.out.2⟩
        replace hb15 := hb14.trans (hb15.mono hb14.size)
        clear hb14 hq3
        go_wp2_with fail
        go_ret
        exact ⟨rfl, hb15⟩

end Go.Proofs.Qxb6001105a.Kube
