/-
  zzBytes_FnMatchesEmptyAcceptsUnknownOperatorRefuses: it reads, and gives some bool.
-/
import Derived.Test.Qxb6001105aBase
namespace Go.Proofs.Qxb6001105a.Kube
open Go.RowKit Go.Maps

set_option maxHeartbeats 4000000 in
theorem zz22 (a0 : Option Addr) (n0 c0 : Nat) (s0 : List ByteArray) (a1 : Option Addr) (n1 c1 : Nat) (s1 : List ByteArray) (s2 : ByteArray) (s3 : ByteArray) (a4 : Option Addr) (n4 c4 : Nat) (s4 : List ByteArray) (w : World) (h0 : SRow w a0 n0 c0 s0) (h1 : SRow w a1 n1 c1 s1) (h4 : SRow w a4 n4 c4 s4) :
    Calls Try.prog 22 #[.slice a0 n0 c0, .slice a1 n1 c1, .string s2, .string s3, .slice a4 n4 c4] w fun e w' => SomeBool e ∧ w' = w := by
  have l0 := h0.le
  have l1 := h1.le
  have l4 := h4.le
  unfold maxLen at l0 l1 l4
  go_enter Try.func22, Try.ntmps22
  go_wp2
  any_goals (go_ret; exact ⟨⟨_, rfl⟩, rfl⟩)
  go_loop [11, 12] (fun t i => ∃ (k : Nat) (r : Int), k ≤ n0 ∧ i = .int .i64 k ∧ t = .int .i64 r) (fun _ i => n0 - (intOf i).toNat)
  case atStart => exact ⟨0, _, Nat.zero_le _, rfl, rfl⟩
  case round =>
    obtain ⟨k, r, hk, rfl, rfl⟩ := hrel
    by_cases hlt : k < n0
    · obtain ⟨b, off, rfl, hc⟩ := h0.cell (by omega)
      have hck := hc k hlt
      go_wp2
      · go_ret; exact ⟨⟨_, rfl⟩, rfl⟩
      · go_ret; exact ⟨⟨_, rfl⟩, rfl⟩
      · go_round
        case rel => exact ⟨k + 1, _, by omega, by go_num, rfl⟩
        case measure => simp [intOf]; omega
    · clear hk
      go_wp2
      any_goals (go_ret; exact ⟨⟨_, rfl⟩, rfl⟩)
      go_loop [11, 13] (fun t i => ∃ (k : Nat) (r : Int), k ≤ n1 ∧ i = .int .i64 k ∧ t = .int .i64 r) (fun _ i => n1 - (intOf i).toNat)
      case atStart => exact ⟨0, _, Nat.zero_le _, rfl, rfl⟩
      case round =>
        obtain ⟨k, r, hk, rfl, rfl⟩ := hrel
        by_cases hlt : k < n1
        · obtain ⟨b, off, rfl, hc⟩ := h1.cell (by omega)
          have hck := hc k hlt
          go_wp2
          · go_ret; exact ⟨⟨_, rfl⟩, rfl⟩
          · go_ret; exact ⟨⟨_, rfl⟩, rfl⟩
          · go_round
            case rel => exact ⟨k + 1, _, by omega, by go_num, rfl⟩
            case measure => simp [intOf]; omega
        · clear hk
          go_wp2
          any_goals (go_ret; exact ⟨⟨_, rfl⟩, rfl⟩)
          go_loop [11, 14] (fun t i => ∃ (k : Nat) (r : Int), k ≤ n4 ∧ i = .int .i64 k ∧ t = .int .i64 r) (fun _ i => n4 - (intOf i).toNat)
          case atStart => exact ⟨0, _, Nat.zero_le _, rfl, rfl⟩
          case round =>
            obtain ⟨k, r, hk, rfl, rfl⟩ := hrel
            by_cases hlt : k < n4
            · obtain ⟨b, off, rfl, hc⟩ := h4.cell (by omega)
              have hck := hc k hlt
              go_wp2
              · go_ret; exact ⟨⟨_, rfl⟩, rfl⟩
              · go_ret; exact ⟨⟨_, rfl⟩, rfl⟩
              · go_round
                case rel => exact ⟨k + 1, _, by omega, by go_num, rfl⟩
                case measure => simp [intOf]; omega
            · clear hk
              go_wp2
              go_ret; exact ⟨⟨_, rfl⟩, rfl⟩

end Go.Proofs.Qxb6001105a.Kube
