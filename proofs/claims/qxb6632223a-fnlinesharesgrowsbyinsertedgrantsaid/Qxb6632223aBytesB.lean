/-
  The contracts of the two guards on total length: each answers some bool and turns nothing.
-/
import Derived.Test.Qxb6632223aShares
namespace Go.Proofs.Qxb6632223a
open Go.RowKit

set_option maxHeartbeats 1000000 in
set_option maxRecDepth 100000 in
theorem bytes9_any (nm rl : ByteArray) (a0 a1 a2 a3 a4 : Option Addr) (l0 l1 l2 l3 n c0 c1 c2 c3 c4 : Nat) (q : Int) (gp gg : ByteArray) (x : Int) (w : World) (h0 : StrRow w a0 l0) (h1 : StrRow w a1 l1) (h2 : StrRow w a2 l2) (h3 : StrRow w a3 l3)
    (m0 : l0 ≤ 9223372036854775807) (m1 : l1 ≤ 9223372036854775807) (m2 : l2 ≤ 9223372036854775807) (m3 : l3 ≤ 9223372036854775807) :
    Calls Try.prog 9 #[.string nm, .string rl, .slice a0 l0 c0, .slice a1 l1 c1, .slice a2 l2 c2, .slice a3 l3 c3, .slice a4 n c4, .int .i64 q, .string gp, .string gg, .int .i64 x] w fun e w' =>
      SomeBool e ∧ w' = w := by
  have H0 : Hid (StrRow w a0 l0) := h0
  have H1 : Hid (StrRow w a1 l1) := h1
  have H2 : Hid (StrRow w a2 l2) := h2
  have H3 : Hid (StrRow w a3 l3) := h3
  clear h0 h1 h2 h3
  go_enter Try.func9, Try.ntmps9
  go_wp2_with fail
  · go_ret
    exact ⟨SomeBool.mk _, rfl⟩
  · go_ret
    exact ⟨SomeBool.mk _, rfl⟩
  · go_ret
    exact ⟨SomeBool.mk _, rfl⟩
  · go_ret
    exact ⟨SomeBool.mk _, rfl⟩
  · go_ret
    exact ⟨SomeBool.mk _, rfl⟩
  go_loop [23, 24] (fun z i => ∃ (k : Nat) (m : Int), k ≤ l0 ∧ i = .int .i64 k ∧ z = .int .i64 m) (fun _ i => l0 - (intOf i).toNat)
  case atStart => exact ⟨0, _, Nat.zero_le _, rfl, rfl⟩
  case round =>
    obtain ⟨k, m, hk, rfl, rfl⟩ := hrel
    by_cases hlt : k < l0
    · obtain ⟨b, off, s, rfl, hc⟩ := H0.out k hlt
      go_wp2_with fail
      · go_ret
        exact ⟨SomeBool.mk _, rfl⟩
      · go_ret
        exact ⟨SomeBool.mk _, rfl⟩
      · go_round
        case rel => exact ⟨k + 1, _, by omega, by go_num, rfl⟩
        case measure => simp [intOf]; omega
    go_wp2_with fail
    · go_ret
      exact ⟨SomeBool.mk _, rfl⟩
    · go_ret
      exact ⟨SomeBool.mk _, rfl⟩
    go_loop [23, 25] (fun z i => ∃ (k : Nat) (m : Int), k ≤ l1 ∧ i = .int .i64 k ∧ z = .int .i64 m) (fun _ i => l1 - (intOf i).toNat)
    case atStart => exact ⟨0, _, Nat.zero_le _, rfl, rfl⟩
    case round =>
      obtain ⟨k, m, hk, rfl, rfl⟩ := hrel
      by_cases hlt : k < l1
      · obtain ⟨b, off, s, rfl, hc⟩ := H1.out k hlt
        go_wp2_with fail
        · go_ret
          exact ⟨SomeBool.mk _, rfl⟩
        · go_ret
          exact ⟨SomeBool.mk _, rfl⟩
        · go_round
          case rel => exact ⟨k + 1, _, by omega, by go_num, rfl⟩
          case measure => simp [intOf]; omega
      go_wp2_with fail
      · go_ret
        exact ⟨SomeBool.mk _, rfl⟩
      · go_ret
        exact ⟨SomeBool.mk _, rfl⟩
      go_loop [23, 26] (fun z i => ∃ (k : Nat) (m : Int), k ≤ l2 ∧ i = .int .i64 k ∧ z = .int .i64 m) (fun _ i => l2 - (intOf i).toNat)
      case atStart => exact ⟨0, _, Nat.zero_le _, rfl, rfl⟩
      case round =>
        obtain ⟨k, m, hk, rfl, rfl⟩ := hrel
        by_cases hlt : k < l2
        · obtain ⟨b, off, s, rfl, hc⟩ := H2.out k hlt
          go_wp2_with fail
          · go_ret
            exact ⟨SomeBool.mk _, rfl⟩
          · go_ret
            exact ⟨SomeBool.mk _, rfl⟩
          · go_round
            case rel => exact ⟨k + 1, _, by omega, by go_num, rfl⟩
            case measure => simp [intOf]; omega
        go_wp2_with fail
        · go_ret
          exact ⟨SomeBool.mk _, rfl⟩
        · go_ret
          exact ⟨SomeBool.mk _, rfl⟩
        go_loop [23, 27] (fun z i => ∃ (k : Nat) (m : Int), k ≤ l3 ∧ i = .int .i64 k ∧ z = .int .i64 m) (fun _ i => l3 - (intOf i).toNat)
        case atStart => exact ⟨0, _, Nat.zero_le _, rfl, rfl⟩
        case round =>
          obtain ⟨k, m, hk, rfl, rfl⟩ := hrel
          by_cases hlt : k < l3
          · obtain ⟨b, off, s, rfl, hc⟩ := H3.out k hlt
            go_wp2_with fail
            · go_ret
              exact ⟨SomeBool.mk _, rfl⟩
            · go_ret
              exact ⟨SomeBool.mk _, rfl⟩
            · go_round
              case rel => exact ⟨k + 1, _, by omega, by go_num, rfl⟩
              case measure => simp [intOf]; omega
          go_wp2_with fail
          · go_ret
            exact ⟨SomeBool.mk _, rfl⟩
          · go_ret
            exact ⟨SomeBool.mk _, rfl⟩
          · go_ret
            exact ⟨SomeBool.mk _, rfl⟩
          · go_ret
            exact ⟨SomeBool.mk _, rfl⟩
          · go_ret
            exact ⟨SomeBool.mk _, rfl⟩
          · go_ret
            exact ⟨SomeBool.mk _, rfl⟩
          · go_ret
            exact ⟨SomeBool.mk _, rfl⟩

end Go.Proofs.Qxb6632223a
