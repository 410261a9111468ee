/-
  The contract of zzTooBig: it answers some bool; where it answers false, there are at most 65536 shares.
-/
import Derived.Test.Qxb6632223aShares
namespace Go.Proofs.Qxb6632223a
open Go.RowKit

theorem ret_bool {a b : Bool} (h : a = b) : Ending.returned (.bool a) = .returned (.bool b) := by rw [h]

theorem big_any (nm rl : ByteArray) (a0 a1 a2 a3 a4 : Option Addr) (l0 l1 l2 l3 n c0 c1 c2 c3 c4 : Nat) (w : World) (h0 : StrRow w a0 l0) (h1 : StrRow w a1 l1) (h2 : StrRow w a2 l2) (h3 : StrRow w a3 l3)
    (m0 : l0 ≤ 9223372036854775807) (m1 : l1 ≤ 9223372036854775807) (m2 : l2 ≤ 9223372036854775807) (m3 : l3 ≤ 9223372036854775807) :
    Calls Try.prog 6 #[.string nm, .string rl, .slice a0 l0 c0, .slice a1 l1 c1, .slice a2 l2 c2, .slice a3 l3 c3, .slice a4 n c4] w fun e w' =>
      (e = .returned (.bool true) ∨ e = .returned (.bool false) ∧ n ≤ 65536) ∧ w' = w := by
  have K0 : Hid (∀ acc, Calls Try.prog 10 #[.int .i64 acc, .slice a0 l0 c0] w fun e w' => (∃ r, e = .returned (.int .i64 r)) ∧ w' = w) := fun acc => add_any a0 l0 c0 acc w h0 m0
  have K1 : Hid (∀ acc, Calls Try.prog 10 #[.int .i64 acc, .slice a1 l1 c1] w fun e w' => (∃ r, e = .returned (.int .i64 r)) ∧ w' = w) := fun acc => add_any a1 l1 c1 acc w h1 m1
  have K2 : Hid (∀ acc, Calls Try.prog 10 #[.int .i64 acc, .slice a2 l2 c2] w fun e w' => (∃ r, e = .returned (.int .i64 r)) ∧ w' = w) := fun acc => add_any a2 l2 c2 acc w h2 m2
  have K3 : Hid (∀ acc, Calls Try.prog 10 #[.int .i64 acc, .slice a3 l3 c3] w fun e w' => (∃ r, e = .returned (.int .i64 r)) ∧ w' = w) := fun acc => add_any a3 l3 c3 acc w h3 m3
  clear h0 h1 h2 h3 m0 m1 m2 m3
  by_cases b0 : 65536 < (l0 : Int)
  · go_enter Try.func6, Try.ntmps6
    go_wp2_with fail
    go_ret
    exact ⟨.inl rfl, rfl⟩
  by_cases b1 : 65536 < (l1 : Int)
  · go_enter Try.func6, Try.ntmps6
    go_wp2_with fail
    go_ret
    exact ⟨.inl rfl, rfl⟩
  by_cases b2 : 65536 < (l2 : Int)
  · go_enter Try.func6, Try.ntmps6
    go_wp2_with fail
    go_ret
    exact ⟨.inl rfl, rfl⟩
  by_cases b3 : 65536 < (l3 : Int)
  · go_enter Try.func6, Try.ntmps6
    go_wp2_with fail
    go_ret
    exact ⟨.inl rfl, rfl⟩
  by_cases b4 : 65536 < (n : Int)
  · go_enter Try.func6, Try.ntmps6
    go_wp2_with fail
    go_ret
    exact ⟨.inl rfl, rfl⟩
  by_cases d0 : 1048576 < (nm.size : Int)
  · go_enter Try.func6, Try.ntmps6
    go_wp2_with fail
    go_ret
    exact ⟨.inl rfl, rfl⟩
  by_cases d1 : 1048576 < (rl.size : Int)
  · go_enter Try.func6, Try.ntmps6
    go_wp2_with fail
    go_ret
    exact ⟨.inl rfl, rfl⟩
  go_enter Try.func6, Try.ntmps6
  go_wp2_with fail
  · go_ret
    exact ⟨.inl rfl, rfl⟩
  refine Calls.mono (K0.out _) ?_
  rintro e w1 ⟨⟨r0, rfl⟩, rfl⟩
  go_wp2_with fail
  · go_ret
    exact ⟨.inl rfl, rfl⟩
  refine Calls.mono (K1.out _) ?_
  rintro e w1 ⟨⟨r1, rfl⟩, rfl⟩
  go_wp2_with fail
  · go_ret
    exact ⟨.inl rfl, rfl⟩
  refine Calls.mono (K2.out _) ?_
  rintro e w1 ⟨⟨r2, rfl⟩, rfl⟩
  go_wp2_with fail
  · go_ret
    exact ⟨.inl rfl, rfl⟩
  refine Calls.mono (K3.out _) ?_
  rintro e w1 ⟨⟨r3, rfl⟩, rfl⟩
  by_cases b5 : 1048576 < r3
  · go_wp2_with fail
    go_ret
    exact ⟨.inl (ret_bool (by simp)), rfl⟩
  · go_wp2_with fail
    go_ret
    exact ⟨.inr ⟨ret_bool (by simp; omega), by omega⟩, rfl⟩
end Go.Proofs.Qxb6632223a
