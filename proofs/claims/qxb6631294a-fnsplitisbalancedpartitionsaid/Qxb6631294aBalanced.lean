/-
  FnSplitIsBalancedPartition: the walk, and the row.
-/
import Derived.Test.Qxb6631294aSplit
import Derived.ProofKit
import Derived.OpenShut
import Derived.Below
namespace Go.Proofs.Qxb6631294a.balanced
open Go.ChangeShapes Go.WideShapes Go.ChangeAt Go.RowKit

theorem own : ownKnob Try.prog.godebug = none := by kernel_rfl
theorem ret_bool {a b : Bool} (h : a = b) : Ending.returned (.bool a) = .returned (.bool b) := by rw [h]

/-- The size of the range ahead of range k (0 at the start), and the first range's size as far as it is known. -/
def D (n : Nat) : Nat → Int
  | 0 => 0
  | k + 1 => F n (k + 1) - F n k
def E (n : Nat) : Nat → Int
  | 0 => 0
  | _ + 1 => F n 1
theorem D_anti (n k : Nat) : F n (k + 1 + 1) - F n (k + 1) ≤ F n (k + 1) - F n k := by
  by_cases h : ((k : Nat) : Int) < 16384 % (n : Int)
  · have := F_lo n k h
    have := F_step n (k + 1)
    omega
  · have := F_hi n k h
    have := F_hi n (k + 1) (by omega)
    omega
theorem E_D (n k : Nat) : E n (k + 1) - D n (k + 1) ≤ 1 := by
  have a := F_step n 0
  have b := F_step n k
  have c := F_zero n
  simp only [Nat.zero_add] at a
  simp only [E, D]
  omega
theorem D_bd (n k : Nat) (h1 : 1 ≤ n) (h2 : n ≤ 16384) : -1 ≤ D n k ∧ D n k ≤ 16385 := by
  cases k with
  | zero => simp [D]
  | succ k =>
    have := F_step n k
    have := q_pos n h1 h2
    simp only [D]
    omega
theorem E_bd (n k : Nat) (h1 : 1 ≤ n) (h2 : n ≤ 16384) : 0 ≤ E n k ∧ E n k ≤ 16384 := by
  cases k with
  | zero => simp [E]
  | succ k => exact F_bd n 1 h1 h2 h1

theorem E_zero (n k : Nat) (h : k < 1) : E n (k + 1) = F n (k + 1) - 1 - F n k + 1 := by
  obtain rfl : k = 0 := by omega
  have := F_zero n
  simp only [E, Nat.zero_add]
  omega
theorem E_succ (n k : Nat) (h : 1 ≤ k) : E n (k + 1) = E n k := by
  obtain ⟨j, rfl⟩ : ∃ j, k = j + 1 := ⟨k - 1, by omega⟩
  rfl
theorem D_pos (n k : Nat) (h : 1 ≤ k) : F n (k + 1) - F n k ≤ D n k := by
  obtain ⟨j, rfl⟩ : ∃ j, k = j + 1 := ⟨k - 1, by omega⟩
  exact D_anti n j
theorem D_succ (n k : Nat) : D n (k + 1) = F n (k + 1) - 1 - F n k + 1 := by
  simp only [D]
  omega

theorem walk (a0 : Int) (w : World) :
    Calls Try.prog 3 #[.int .i64 a0] w fun e w' => e = .returned (.bool true) ∧ Below w.heap.size w w' := by
  by_cases c0 : a0 < 1
  · go_enter Try.func3, Try.ntmps3
    go_wp2
    go_ret
    exact ⟨rfl, Below.refl _ _⟩
  by_cases c1 : 16384 < a0
  · go_enter Try.func3, Try.ntmps3
    go_wp2
    go_ret
    exact ⟨rfl, Below.refl _ _⟩
  obtain ⟨n, rfl⟩ : ∃ n : Nat, a0 = n := ⟨a0.toNat, by omega⟩
  have h1 : 1 ≤ n := by omega
  have h2 : n ≤ 16384 := by omega
  go_enter Try.func3, Try.ntmps3
  go_wp2_with fail
  refine (split_any n w h1 h2).mono ?_
  rintro e w1 ⟨rfl, hb1, hz1, cs, hrow, hblk⟩
  have HR : Hid _ := hrow
  have HB : Hid _ := hblk
  clear hrow hblk
  go_wp2_with fail
  go_loopw [4, 5, 6, 7, 8] (fun nx pv fi la i wr => ∃ k : Nat, k ≤ n ∧ i = .int .i64 k ∧ nx = .int .i64 (F n k) ∧ pv = .int .i64 (D n k) ∧ la = .int .i64 (D n k) ∧ fi = .int .i64 (E n k) ∧ Below (w.heap.size + 1) w1 wr) (fun _ _ _ _ i _ => n - (intOf i).toNat)
  case atStart => exact ⟨0, Nat.zero_le _, rfl, by rw [F_zero], rfl, rfl, rfl, Below.refl _ _⟩
  case round =>
    obtain ⟨k, hk, rfl, rfl, rfl, rfl, rfl, hbel⟩ := hrel
    have hbd := F_bd n k h1 h2 hk
    by_cases hlt : k < n
    · have hst : F n k + 1 ≤ F n (k + 1) := by
        have := q_pos n h1 h2
        have := F_step n k
        omega
      have hbd' := F_bd n (k + 1) h1 h2 (by omega)
      have hc0 : wr.cell? ⟨w.heap.size, k * 2, none⟩ = some (.int .i64 (F n k)) := by
        rw [hbel.cell (by simp), cell_of_row w1 _ _ cs 25 (0, 0) HB.out]
        exact (HR.out.2 k hlt).1
      have hc1 : wr.cell? ⟨w.heap.size, k * 2 + 1, none⟩ = some (.int .i64 (F n (k + 1) - 1)) := by
        rw [hbel.cell (by simp), cell_of_row w1 _ _ cs 25 (0, 0) HB.out]
        exact (HR.out.2 k hlt).2
      have hz : w.heap.size < wr.heap.size := by
        have := hbel.size
        omega
      have hd := D_bd n k h1 h2
      have he := E_bd n k h1 h2
      by_cases h0 : k < 1
      · go_wp2_with fail
        go_roundw
        case rel => exact ⟨k + 1, by omega, by go_num, by go_num, by rw [D_succ], by rw [D_succ], by rw [E_zero n k h0], hbel.alloc (by omega) _⟩
        case measure => simp [intOf]; omega
      · have hd' := D_pos n k (by omega)
        go_wp2_with fail
        go_roundw
        case rel => exact ⟨k + 1, by omega, by go_num, by go_num, by rw [D_succ], by rw [D_succ], by rw [E_succ n k (by omega)], hbel.alloc (by omega) _⟩
        case measure => simp [intOf]; omega
    · obtain rfl : k = n := by omega
      have hall := F_all k h1
      have hd := D_bd k k h1 h2
      have he := E_bd k k h1 h2
      have hed : E k k - D k k ≤ 1 := by
        obtain ⟨j, hj⟩ : ∃ j, k = j + 1 := ⟨k - 1, by omega⟩
        have := E_D k j
        rw [← hj] at this
        exact this
      go_wp2_with fail
      go_ret
      exact ⟨ret_bool (by simp), hb1.trans (hbel.mono (by omega))⟩

set_option maxRecDepth 100000 in
theorem lifted (os : Os) (started : os.Started) (H : Type) (enc : TypeId × Value → H) :
    ReturnsInHanded {} Try.checked os 3 .any (Rows.fnSplitIsBalancedPartitionSpec.pre6 enc Try.prog Try.f3 Rows.fnSplitIsBalancedPartitionRow.domain false) (Rows.fnSplitIsBalancedPartitionSpec.post enc Try.prog Try.f3 false true false false) := by
  refine returnsInHanded_of_change (C := Try.checked) own started (by kernel_rfl) Try.func3
    (ChangeSpec.witness6 (enc := enc) (C := Try.checked) false ⟨#[], #[.int .i64 0], []⟩ 8 (by kernel_rfl) (by kernel_rfl) (by kernel_rfl) (by kernel_rfl)) ?_
  intro W base args ds gs before hval0 hW hcnd _
  have hval : ∀ (j : Nat) t v, Try.f3.params[j]? = some t → args[j]? = some v → Value.okWide Try.prog W .any base t v := hval0
  have hW' := hW
  obtain ⟨p, q, hA0, hV, rfl, hfz, hnd⟩ := hW
  have hA : DataW.TrodAll enc Try.prog W 0 (fun _ => true) true Try.f3.params.toList args.toList ds p := hA0
  rw [Try.params3] at hA hval
  obtain ⟨v0, vs0, d0, ds0, p0, q0, hargs, rfl, rfl, h0, r0⟩ := trodAll_cons hA
  obtain ⟨rfl, rfl, rfl⟩ := trodAll_nil r0
  obtain rfl : args = #[v0] := by cases args; simp_all
  obtain ⟨rfl, rfl⟩ := trodVars_none hV
  obtain ⟨a0, rfl, rfl, rfl, w0⟩ := open_int Try.underlying3 (hval 0 3 v0 rfl rfl) h0
  clear hA0 hval0
  refine (walk a0 W).mono fun e W' ⟨he, bel⟩ => ?_
  subst he
  exact ⟨_, rfl, _, _, _, [], _, [], hW', trodAll_mk1 (shut_bool Try.underlying4 _), trodAll_mk1 (shut_int Try.underlying3 w0), rfl, bel.frame _, fun h => by cases h⟩

theorem over : Rows.fnSplitIsBalancedPartitionRow.holds Try.pinned (OpenSpec.ofChange Rows.fnSplitIsBalancedPartitionSpec) :=
  OpenClaim.holds_of_wide 3 Try.f3 rfl rfl rfl rfl rfl rfl rfl ⟨rfl, rfl, rfl, rfl, rfl⟩ rfl rfl rfl rfl rfl (by kernel_rfl) Try.func3 (by kernel_rfl)
    (of_decide_eq_true (by kernel_rfl)) (by unfold Func.isWrapper; first | (rw [if_pos (by decide +kernel)]; kernel_rfl) | (rw [if_neg (by decide +kernel)]; exact ⟨rfl, rfl⟩))
    (fun os started H enc _ => lifted os started H enc)

theorem proved : Rows.FnSplitIsBalancedPartitionSaid := over
#print axioms proved
end Go.Proofs.Qxb6631294a.balanced
