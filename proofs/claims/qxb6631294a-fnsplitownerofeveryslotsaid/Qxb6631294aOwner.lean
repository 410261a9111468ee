/-
  FnSplitOwnerOfEverySlot: the walk, and the row.
-/
import Derived.Test.Qxb6631294aSplit
import Derived.ProofKit
import Derived.OpenShut
import Derived.Below
namespace Go.Proofs.Qxb6631294a.owner
open Go.ChangeShapes Go.WideShapes Go.ChangeAt Go.RowKit

theorem own : ownKnob Try.prog.godebug = none := by kernel_rfl
theorem ret_bool {a b : Bool} (h : a = b) : Ending.returned (.bool a) = .returned (.bool b) := by rw [h]

/-- The owner of slot k: the index that the law reckons is a range's, and that range holds k. -/
theorem own_lo (n : Nat) (k : Int) (k0 : 0 ≤ k) (h1 : 1 ≤ n) (h2 : n ≤ 16384) (q r b : Int) (hq : 16384 / (n : Int) = q) (hr : 16384 % (n : Int) = r) (hb : r * (q + 1) = b) (hk : k < b) :
    ∃ j : Nat, k / (q + 1) = j ∧ j < n ∧ F n j ≤ k ∧ k ≤ F n (j + 1) - 1 := by
  have qp := q_pos n h1 h2
  have rl : r < n := by rw [← hr]; exact Int.emod_lt_of_pos _ (by omega)
  rw [hq] at qp
  have hnn : 0 ≤ k / (q + 1) := Int.ediv_nonneg (by omega) (by omega)
  have hlt : k / (q + 1) < r := (Int.ediv_lt_iff_lt_mul (by omega)).2 (by rw [hb]; exact hk)
  obtain ⟨j, hj⟩ : ∃ j : Nat, k / (q + 1) = j := ⟨(k / (q + 1)).toNat, by omega⟩
  have lo : (j : Int) * (q + 1) ≤ k := by rw [← hj]; exact Int.ediv_mul_le _ (by omega)
  have hi : k < (j + 1) * (q + 1) := by rw [← hj]; exact Int.lt_ediv_add_one_mul_self _ (by omega)
  rw [hj] at hlt
  have e0 : F n j = j * (q + 1) := by
    unfold F
    rw [hq, hr, Int.mul_add, Int.mul_one]
    omega
  have e1 := F_lo n j (by rw [hr]; exact hlt)
  rw [hq] at e1
  rw [Int.add_mul, Int.one_mul] at hi
  exact ⟨j, hj, by omega, by omega, by omega⟩
theorem own_hi (n : Nat) (k : Int) (k0 : 0 ≤ k) (h1 : 1 ≤ n) (h2 : n ≤ 16384) (q r b : Int) (hq : 16384 / (n : Int) = q) (hr : 16384 % (n : Int) = r) (hb : r * (q + 1) = b) (hk : ¬ k < b) (hk' : k < 16384) :
    ∃ j : Nat, r + (k - b) / q = j ∧ j < n ∧ F n j ≤ k ∧ k ≤ F n (j + 1) - 1 := by
  have qp := q_pos n h1 h2
  have rl : r < n := by rw [← hr]; exact Int.emod_lt_of_pos _ (by omega)
  have r0 : 0 ≤ r := by rw [← hr]; exact Int.emod_nonneg _ (by omega)
  have ha := Int.mul_ediv_add_emod 16384 n
  rw [hq] at qp ha
  rw [hr] at ha
  have hnn : 0 ≤ (k - b) / q := Int.ediv_nonneg (by omega) (by omega)
  have hm : ((n : Int) - r) * q = 16384 - b := by
    rw [Int.sub_mul, ← hb, Int.mul_add, Int.mul_one]
    omega
  have hlt : (k - b) / q < (n : Int) - r := (Int.ediv_lt_iff_lt_mul (by omega)).2 (by omega)
  have lo : ((k - b) / q) * q ≤ k - b := Int.ediv_mul_le _ (by omega)
  have hi : k - b < ((k - b) / q + 1) * q := Int.lt_ediv_add_one_mul_self _ (by omega)
  generalize (k - b) / q = m at *
  obtain ⟨j, hj⟩ : ∃ j : Nat, r + m = j := ⟨(r + m).toNat, by omega⟩
  have e0 : F n j = b + m * q := by
    unfold F
    rw [hq, hr, ← hj, Int.add_mul, ← hb, Int.mul_add, Int.mul_one]
    omega
  have e1 := F_hi n j (by rw [hr]; omega)
  rw [hq] at e1
  rw [Int.add_mul, Int.one_mul] at hi
  exact ⟨j, hj, by omega, by omega, by omega⟩
theorem b_bd (n : Nat) (h1 : 1 ≤ n) (q r b : Int) (hq : 16384 / (n : Int) = q) (hr : 16384 % (n : Int) = r) (hb : r * (q + 1) = b) (q1 : 1 ≤ q) : 0 ≤ r ∧ r ≤ 16384 ∧ 0 ≤ b ∧ b ≤ 16384 := by
  have rl : r < n := by rw [← hr]; exact Int.emod_lt_of_pos _ (by omega)
  have r0 : 0 ≤ r := by rw [← hr]; exact Int.emod_nonneg _ (by omega)
  have ha := Int.mul_ediv_add_emod 16384 n
  rw [hq, hr] at ha
  have b0 : 0 ≤ b := by rw [← hb]; exact Int.mul_nonneg r0 (by omega)
  have hm : ((n : Int) - r) * q = 16384 - b := by
    rw [Int.sub_mul, ← hb, Int.mul_add, Int.mul_one]
    omega
  have hm0 : 0 ≤ ((n : Int) - r) * q := Int.mul_nonneg (by omega) (by omega)
  have hn0 : 0 ≤ (n : Int) * q := Int.mul_nonneg (by omega) (by omega)
  omega

/-- What is left of the slots (the number behind a name of its own). -/
def left (i : Int) : Nat := (16384 - i).toNat
theorem left_lt (k : Int) (h : k < 16384) : left (k + 1) < left k := by unfold left; omega

theorem walk (a0 : Int) (w : World) :
    Calls Try.prog 4 #[.int .i64 a0] w fun e w' => e = .returned (.bool true) ∧ Below w.heap.size w w' := by
  by_cases c0 : a0 < 1
  · go_enter Try.func4, Try.ntmps4
    go_wp2
    go_ret
    exact ⟨rfl, Below.refl _ _⟩
  by_cases c1 : 16384 < a0
  · go_enter Try.func4, Try.ntmps4
    go_wp2
    go_ret
    exact ⟨rfl, Below.refl _ _⟩
  obtain ⟨n, rfl⟩ : ∃ n : Nat, a0 = n := ⟨a0.toNat, by omega⟩
  have h1 : 1 ≤ n := by omega
  have h2 : n ≤ 16384 := by omega
  obtain ⟨q, hq⟩ : ∃ q, 16384 / (n : Int) = q := ⟨_, rfl⟩
  obtain ⟨r, hr⟩ : ∃ r, 16384 % (n : Int) = r := ⟨_, rfl⟩
  obtain ⟨b, hb⟩ : ∃ b, r * (q + 1) = b := ⟨_, rfl⟩
  have qp := q_pos n h1 h2
  rw [hq] at qp
  have bb := b_bd n h1 q r b hq hr hb qp.1
  have LO : Hid _ := fun k k0 => own_lo n k k0 h1 h2 q r b hq hr hb
  have HI : Hid _ := fun k k0 => own_hi n k k0 h1 h2 q r b hq hr hb
  go_enter Try.func4, Try.ntmps4
  go_wp2_with fail
  refine (split_any n w h1 h2).mono ?_
  rintro e w1 ⟨rfl, hb1, hz1, cs, hrow, hblk⟩
  have HR : Hid _ := hrow
  have HB : Hid _ := hblk
  clear hrow hblk
  go_wp2_with fail
  rw [hq, hr]
  clear hq hr hb h1 h2
  go_loop [7] (fun i => ∃ k : Int, 0 ≤ k ∧ k ≤ 16384 ∧ i = .int .i64 k) (fun i => left (intOf i))
  case atStart => exact ⟨0, by omega, by omega, rfl⟩
  case round =>
    obtain ⟨k, hk0, hk, rfl⟩ := hrel
    by_cases hlt : k < 16384
    · by_cases hkb : k < b
      · obtain ⟨j, hj, hjn, hlo, hhi⟩ := LO.out k hk0 hkb
        have hc0 : w1.cell? ⟨w.heap.size, j * 2, none⟩ = some (.int .i64 (F n j)) := by
          rw [cell_of_row w1 _ _ cs 25 (0, 0) HB.out]
          exact (HR.out.2 j hjn).1
        have hc1 : w1.cell? ⟨w.heap.size, j * 2 + 1, none⟩ = some (.int .i64 (F n (j + 1) - 1)) := by
          rw [cell_of_row w1 _ _ cs 25 (0, 0) HB.out]
          exact (HR.out.2 j hjn).2
        go_wp2_with fail
        go_round
        case rel => exact ⟨k + 1, by omega, by omega, rfl⟩
        case measure => exact left_lt k (by omega)
      · obtain ⟨j, hj, hjn, hlo, hhi⟩ := HI.out k hk0 (by omega) (by omega)
        have hc0 : w1.cell? ⟨w.heap.size, j * 2, none⟩ = some (.int .i64 (F n j)) := by
          rw [cell_of_row w1 _ _ cs 25 (0, 0) HB.out]
          exact (HR.out.2 j hjn).1
        have hc1 : w1.cell? ⟨w.heap.size, j * 2 + 1, none⟩ = some (.int .i64 (F n (j + 1) - 1)) := by
          rw [cell_of_row w1 _ _ cs 25 (0, 0) HB.out]
          exact (HR.out.2 j hjn).2
        go_wp2_with fail
        go_round
        case rel => exact ⟨k + 1, by omega, by omega, rfl⟩
        case measure => exact left_lt k (by omega)
    · go_wp2_with fail
      go_ret
      exact ⟨rfl, hb1⟩

set_option maxRecDepth 100000 in
theorem lifted (os : Os) (started : os.Started) (H : Type) (enc : TypeId × Value → H) :
    ReturnsInHanded {} Try.checked os 4 .any (Rows.fnSplitOwnerOfEverySlotSpec.pre6 enc Try.prog Try.f4 Rows.fnSplitOwnerOfEverySlotRow.domain false) (Rows.fnSplitOwnerOfEverySlotSpec.post enc Try.prog Try.f4 false true false false) := by
  refine returnsInHanded_of_change (C := Try.checked) own started (by kernel_rfl) Try.func4
    (ChangeSpec.witness6 (enc := enc) (C := Try.checked) false ⟨#[], #[.int .i64 0], []⟩ 8 (by kernel_rfl) (by kernel_rfl) (by kernel_rfl) (by kernel_rfl)) ?_
  intro W base args ds gs before hval0 hW hcnd _
  have hval : ∀ (j : Nat) t v, Try.f4.params[j]? = some t → args[j]? = some v → Value.okWide Try.prog W .any base t v := hval0
  have hW' := hW
  obtain ⟨p, q, hA0, hV, rfl, hfz, hnd⟩ := hW
  have hA : DataW.TrodAll enc Try.prog W 0 (fun _ => true) true Try.f4.params.toList args.toList ds p := hA0
  rw [Try.params4] at hA hval
  obtain ⟨v0, vs0, d0, ds0, p0, q0, hargs, rfl, rfl, h0, r0⟩ := trodAll_cons hA
  obtain ⟨rfl, rfl, rfl⟩ := trodAll_nil r0
  obtain rfl : args = #[v0] := by cases args; simp_all
  obtain ⟨rfl, rfl⟩ := trodVars_none hV
  obtain ⟨a0, rfl, rfl, rfl, w0⟩ := open_int Try.underlying3 (hval 0 3 v0 rfl rfl) h0
  clear hA0 hval0
  refine (walk a0 W).mono fun e W' ⟨he, bel⟩ => ?_
  subst he
  exact ⟨_, rfl, _, _, _, [], _, [], hW', trodAll_mk1 (shut_bool Try.underlying4 _), trodAll_mk1 (shut_int Try.underlying3 w0), rfl, bel.frame _, fun h => by cases h⟩

theorem over : Rows.fnSplitOwnerOfEverySlotRow.holds Try.pinned (OpenSpec.ofChange Rows.fnSplitOwnerOfEverySlotSpec) :=
  OpenClaim.holds_of_wide 4 Try.f4 rfl rfl rfl rfl rfl rfl rfl ⟨rfl, rfl, rfl, rfl, rfl⟩ rfl rfl rfl rfl rfl (by kernel_rfl) Try.func4 (by kernel_rfl)
    (of_decide_eq_true (by kernel_rfl)) (by unfold Func.isWrapper; first | (rw [if_pos (by decide +kernel)]; kernel_rfl) | (rw [if_neg (by decide +kernel)]; exact ⟨rfl, rfl⟩))
    (fun os started H enc _ => lifted os started H enc)

theorem proved : Rows.FnSplitOwnerOfEverySlotSaid := over
#print axioms proved
end Go.Proofs.Qxb6631294a.owner
