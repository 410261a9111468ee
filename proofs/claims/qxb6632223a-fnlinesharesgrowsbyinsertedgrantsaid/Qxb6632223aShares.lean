/-
  The contracts of (Line).Shares, zzPick, zzAddStrs.
-/
import Derived.Test.Qxb6632223aRows
import Derived.Test.Qxb6632223aPlain
import Derived.WalkLawsBesides
namespace Go.Proofs.Qxb6632223a
open Go.RowKit

theorem ret_int {k : IntKind} {a b : Int} (h : a = b) : Ending.returned (.int k a) = .returned (.int k b) := by rw [h]

/-- The call returns a bool. -/
def SomeBool (e : Ending) : Prop := ∃ b, e = .returned (.bool b)
theorem SomeBool.mk (b : Bool) : SomeBool (.returned (.bool b)) := ⟨b, rfl⟩

theorem pick_any (a : Option Addr) (len cap k : Nat) (w : World) (h : StrRow w a len) :
    Calls Try.prog 11 #[.slice a len cap, .int .i64 k] w fun e w' => (∃ s, e = .returned (.string s)) ∧ w' = w := by
  by_cases hk : k < len
  · obtain ⟨b, off, s, rfl, hc⟩ := h k hk
    clear h
    go_enter Try.func11, Try.ntmps11
    go_wp2
    go_ret
    exact ⟨⟨_, rfl⟩, rfl⟩
  · clear h
    go_enter Try.func11, Try.ntmps11
    go_wp2
    go_ret
    exact ⟨⟨_, rfl⟩, rfl⟩

theorem add_any (a : Option Addr) (len cap : Nat) (acc : Int) (w : World) (h : StrRow w a len) (hl : len ≤ 9223372036854775807) :
    Calls Try.prog 10 #[.int .i64 acc, .slice a len cap] w fun e w' => (∃ r, e = .returned (.int .i64 r)) ∧ w' = w := by
  have H : Hid _ := h
  clear h
  go_enter Try.func10, Try.ntmps10
  go_wp2
  go_loop [0, 5] (fun x i => ∃ (k : Nat) (m : Int), k ≤ len ∧ i = .int .i64 k ∧ x = .int .i64 m) (fun _ i => len - (intOf i).toNat)
  case atStart => exact ⟨0, _, Nat.zero_le _, rfl, rfl⟩
  case round =>
    obtain ⟨k, m, hk, rfl, rfl⟩ := hrel
    by_cases hlt : k < len
    · obtain ⟨b, off, s, rfl, hc⟩ := H.out k hlt
      go_wp2
      · go_ret
        exact ⟨⟨_, rfl⟩, rfl⟩
      · go_ret
        exact ⟨⟨_, rfl⟩, rfl⟩
      · go_round
        case rel => exact ⟨k + 1, _, by omega, by go_num, rfl⟩
        case measure => simp [intOf]; omega
    · go_wp2
      go_ret
      exact ⟨⟨_, rfl⟩, rfl⟩

theorem shares_any (nm rl : ByteArray) (a : Option Addr) (m c : Nat) (xs : List Int) (w : World) (h : GrantRow w a xs) (hm : m = xs.length) (hl : m ≤ 9223372036854775807) :
    Calls Try.prog 8 #[.agg #[.string nm, .string rl, .slice a m c]] w fun e w' => e = .returned (.int .i64 (wrap64 (tot xs))) ∧ Below w.heap.size w w' := by
  have H : Hid (GrantRow w a xs) := h
  clear h
  go_enter Try.func8, Try.ntmps8
  go_wp2
  go_loopw [3, 9] (fun t i wr => ∃ k : Nat, k ≤ m ∧ i = .int .i64 k ∧ t = .int .i64 (wrap64 (tot (xs.take k))) ∧ Below w.heap.size w wr) (fun _ i _ => m - (intOf i).toNat)
  case atStart => exact ⟨0, Nat.zero_le _, rfl, by simp [tot, wrap64], (Below.refl _ _).alloc (Nat.le_refl _) _⟩
  case round =>
    obtain ⟨k, hk, rfl, rfl, hbel⟩ := hrel
    by_cases hlt : k < m
    · obtain ⟨g, s0, s1, s2, s3, rfl, h0, h1, h2, h3, h4⟩ := GrantRow.below H.out hbel k (by omega)
      have HT : Hid _ := tot_take_succ xs k (by omega)
      go_wp2
      go_roundw
      case rel => exact ⟨k + 1, by omega, by go_num, by rw [HT.out, wrap_step], hbel.alloc hbel.size _⟩
      case measure => simp [intOf]; omega
    · go_wp2
      go_ret
      exact ⟨ret_int (by rw [List.take_of_length_le (by omega)]), hbel⟩

/-- A line with no grants. -/
theorem shares_nil (nm rl : ByteArray) (w : World) :
    Calls Try.prog 8 #[.agg #[.string nm, .string rl, .slice none 0 0]] w fun e w' => e = .returned (.int .i64 0) ∧ Below w.heap.size w w' :=
  (shares_any nm rl none 0 0 [] w (GrantRow.nil _ _) rfl (by omega)).mono fun _ _ h => ⟨h.1.trans (ret_int (by simp [tot, wrap64])), h.2⟩
end Go.Proofs.Qxb6632223a
