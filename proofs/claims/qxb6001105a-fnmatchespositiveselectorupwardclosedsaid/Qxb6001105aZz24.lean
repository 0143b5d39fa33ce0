/-
  zzBytes_FnMatchesPositiveSelectorUpwardClosed: it reads, and gives some bool.
-/
import Derived.Test.Qxb6001105aBase
namespace Go.Proofs.Qxb6001105a.Kube
open Go.RowKit Go.Maps

set_option maxRecDepth 100000 in
set_option maxHeartbeats 4000000 in
theorem zz24 (a0 : Option Addr) (n0 c0 : Nat) (s0 : List ByteArray) (a1 : Option Addr) (n1 c1 : Nat) (s1 : List ByteArray) (a2 : Option Addr) (n2 c2 : Nat) (s2 : List ByteArray) (a3 : Option Addr) (n3 c3 : Nat) (s3 : List ByteArray) (a4 : Option Addr) (n4 c4 : Nat) (s4 : List ByteArray) (a5 : Option Addr) (n5 c5 : Nat) (s5 : List ByteArray) (s6 : ByteArray) (s7 : ByteArray) (a8 : Option Addr) (n8 c8 : Nat) (s8 : List ByteArray) (w : World) (h0 : SRow w a0 n0 c0 s0) (h1 : SRow w a1 n1 c1 s1) (h2 : SRow w a2 n2 c2 s2) (h3 : SRow w a3 n3 c3 s3) (h4 : SRow w a4 n4 c4 s4) (h5 : SRow w a5 n5 c5 s5) (h8 : SRow w a8 n8 c8 s8) :
    Calls Try.prog 24 #[.slice a0 n0 c0, .slice a1 n1 c1, .slice a2 n2 c2, .slice a3 n3 c3, .slice a4 n4 c4, .slice a5 n5 c5, .string s6, .string s7, .slice a8 n8 c8] w fun e w' => SomeBool e ∧ w' = w := by
  have l0 := h0.le
  have l1 := h1.le
  have l2 := h2.le
  have l3 := h3.le
  have l4 := h4.le
  have l5 := h5.le
  have l8 := h8.le
  unfold maxLen at l0 l1 l2 l3 l4 l5 l8
  go_enter Try.func24, Try.ntmps24
  go_wp2
  any_goals (go_ret; exact ⟨⟨_, rfl⟩, rfl⟩)
  go_loop [19, 20] (fun t i => ∃ (k : Nat) (r : Int), k ≤ n0 ∧ i = .int .i64 k ∧ t = .int .i64 r) (fun _ i => n0 - (intOf i).toNat)
  case atStart => exact ⟨0, _, Nat.zero_le _, rfl, rfl⟩
  case round =>
    obtain ⟨k, r, hk, rfl, rfl⟩ := hrel
    by_cases hlt : k < n0
    · obtain ⟨b, off, rfl, hc⟩ := h0.cell (by omega)
      have hck := hc k hlt
      go_wp2
      · go_ret; exact ⟨⟨_, rfl⟩, rfl⟩
      · go_ret; exact ⟨⟨_, rfl⟩, rfl⟩
      · go_round
        case rel => exact ⟨k + 1, _, by omega, by go_num, rfl⟩
        case measure => simp [intOf]; omega
    · clear hk
      go_wp2
      any_goals (go_ret; exact ⟨⟨_, rfl⟩, rfl⟩)
      go_loop [19, 21] (fun t i => ∃ (k : Nat) (r : Int), k ≤ n1 ∧ i = .int .i64 k ∧ t = .int .i64 r) (fun _ i => n1 - (intOf i).toNat)
      case atStart => exact ⟨0, _, Nat.zero_le _, rfl, rfl⟩
      case round =>
        obtain ⟨k, r, hk, rfl, rfl⟩ := hrel
        by_cases hlt : k < n1
        · obtain ⟨b, off, rfl, hc⟩ := h1.cell (by omega)
          have hck := hc k hlt
          go_wp2
          · go_ret; exact ⟨⟨_, rfl⟩, rfl⟩
          · go_ret; exact ⟨⟨_, rfl⟩, rfl⟩
          · go_round
            case rel => exact ⟨k + 1, _, by omega, by go_num, rfl⟩
            case measure => simp [intOf]; omega
        · clear hk
          go_wp2
          any_goals (go_ret; exact ⟨⟨_, rfl⟩, rfl⟩)
          go_loop [19, 22] (fun t i => ∃ (k : Nat) (r : Int), k ≤ n2 ∧ i = .int .i64 k ∧ t = .int .i64 r) (fun _ i => n2 - (intOf i).toNat)
          case atStart => exact ⟨0, _, Nat.zero_le _, rfl, rfl⟩
          case round =>
            obtain ⟨k, r, hk, rfl, rfl⟩ := hrel
            by_cases hlt : k < n2
            · obtain ⟨b, off, rfl, hc⟩ := h2.cell (by omega)
              have hck := hc k hlt
              go_wp2
              · go_ret; exact ⟨⟨_, rfl⟩, rfl⟩
              · go_ret; exact ⟨⟨_, rfl⟩, rfl⟩
              · go_round
                case rel => exact ⟨k + 1, _, by omega, by go_num, rfl⟩
                case measure => simp [intOf]; omega
            · clear hk
              go_wp2
              any_goals (go_ret; exact ⟨⟨_, rfl⟩, rfl⟩)
              go_loop [19, 23] (fun t i => ∃ (k : Nat) (r : Int), k ≤ n3 ∧ i = .int .i64 k ∧ t = .int .i64 r) (fun _ i => n3 - (intOf i).toNat)
              case atStart => exact ⟨0, _, Nat.zero_le _, rfl, rfl⟩
              case round =>
                obtain ⟨k, r, hk, rfl, rfl⟩ := hrel
                by_cases hlt : k < n3
                · obtain ⟨b, off, rfl, hc⟩ := h3.cell (by omega)
                  have hck := hc k hlt
                  go_wp2
                  · go_ret; exact ⟨⟨_, rfl⟩, rfl⟩
                  · go_ret; exact ⟨⟨_, rfl⟩, rfl⟩
                  · go_round
                    case rel => exact ⟨k + 1, _, by omega, by go_num, rfl⟩
                    case measure => simp [intOf]; omega
                · clear hk
                  go_wp2
                  any_goals (go_ret; exact ⟨⟨_, rfl⟩, rfl⟩)
                  go_loop [19, 24] (fun t i => ∃ (k : Nat) (r : Int), k ≤ n4 ∧ i = .int .i64 k ∧ t = .int .i64 r) (fun _ i => n4 - (intOf i).toNat)
                  case atStart => exact ⟨0, _, Nat.zero_le _, rfl, rfl⟩
                  case round =>
                    obtain ⟨k, r, hk, rfl, rfl⟩ := hrel
                    by_cases hlt : k < n4
                    · obtain ⟨b, off, rfl, hc⟩ := h4.cell (by omega)
                      have hck := hc k hlt
                      go_wp2
                      · go_ret; exact ⟨⟨_, rfl⟩, rfl⟩
                      · go_ret; exact ⟨⟨_, rfl⟩, rfl⟩
                      · go_round
                        case rel => exact ⟨k + 1, _, by omega, by go_num, rfl⟩
                        case measure => simp [intOf]; omega
                    · clear hk
                      go_wp2
                      any_goals (go_ret; exact ⟨⟨_, rfl⟩, rfl⟩)
                      go_loop [19, 25] (fun t i => ∃ (k : Nat) (r : Int), k ≤ n5 ∧ i = .int .i64 k ∧ t = .int .i64 r) (fun _ i => n5 - (intOf i).toNat)
                      case atStart => exact ⟨0, _, Nat.zero_le _, rfl, rfl⟩
                      case round =>
                        obtain ⟨k, r, hk, rfl, rfl⟩ := hrel
                        by_cases hlt : k < n5
                        · obtain ⟨b, off, rfl, hc⟩ := h5.cell (by omega)
                          have hck := hc k hlt
                          go_wp2
                          · go_ret; exact ⟨⟨_, rfl⟩, rfl⟩
                          · go_ret; exact ⟨⟨_, rfl⟩, rfl⟩
                          · go_round
                            case rel => exact ⟨k + 1, _, by omega, by go_num, rfl⟩
                            case measure => simp [intOf]; omega
                        · clear hk
                          go_wp2
                          any_goals (go_ret; exact ⟨⟨_, rfl⟩, rfl⟩)
                          go_loop [19, 26] (fun t i => ∃ (k : Nat) (r : Int), k ≤ n8 ∧ i = .int .i64 k ∧ t = .int .i64 r) (fun _ i => n8 - (intOf i).toNat)
                          case atStart => exact ⟨0, _, Nat.zero_le _, rfl, rfl⟩
                          case round =>
                            obtain ⟨k, r, hk, rfl, rfl⟩ := hrel
                            by_cases hlt : k < n8
                            · obtain ⟨b, off, rfl, hc⟩ := h8.cell (by omega)
                              have hck := hc k hlt
                              go_wp2
                              · go_ret; exact ⟨⟨_, rfl⟩, rfl⟩
                              · go_ret; exact ⟨⟨_, rfl⟩, rfl⟩
                              · go_round
                                case rel => exact ⟨k + 1, _, by omega, by go_num, rfl⟩
                                case measure => simp [intOf]; omega
                            · clear hk
                              go_wp2
                              go_ret; exact ⟨⟨_, rfl⟩, rfl⟩

end Go.Proofs.Qxb6001105a.Kube
