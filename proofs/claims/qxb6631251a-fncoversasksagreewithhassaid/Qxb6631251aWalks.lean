/-
  The walks of Has, Covers, singleCoversModel, membersCoverModel.
-/
import Derived.Test.Qxb6631251aRows
import Derived.Test.Qxb6631251aPlain
import Derived.WalkKit
import Derived.WalkLawsBesides
namespace Go.Proofs.Qxb6631251a
open Go.RowKit

theorem ret_bool {a b : Bool} (h : a = b) : Ending.returned (.bool a) = .returned (.bool b) := by rw [h]

theorem has_any (s t : Int) (w : World) (hs0 : 0 ≤ s) (hs : s ≤ 255) (ht0 : 0 ≤ t) :
    Calls Try.prog 7 #[.int .u8 s, .int .u8 t] w fun e w' => e = .returned (.bool (hasI s t)) ∧ w' = w := by
  go_enter Try.func7, Try.ntmps7
  go_wp2
  go_ret
  exact ⟨ret_bool (has_and s t hs0 hs ht0), rfl⟩

theorem cov_any (s t : Int) (w : World) (hs0 : 0 ≤ s) (hs : s ≤ 255) (ht0 : 0 ≤ t) :
    Calls Try.prog 5 #[.int .u8 s, .int .u8 t] w fun e w' => e = .returned (.bool (covI s t)) ∧ w' = w := by
  by_cases h3 : t = 3
  · subst h3
    go_enter Try.func5, Try.ntmps5
    go_wp2_with fail
    go_ret
    exact ⟨rfl, rfl⟩
  by_cases h0 : t = 0
  · subst h0
    go_enter Try.func5, Try.ntmps5
    go_wp2_with fail
    go_ret
    exact ⟨ret_bool (has_22 s hs0 hs), rfl⟩
  · have HE : covI s t = hasI s t := by unfold covI; rw [if_neg h3, if_neg h0]
    rw [HE]
    clear HE
    go_enter Try.func5, Try.ntmps5
    go_wp2_with fail
    refine (has_any _ _ _ hs0 hs ht0).mono ?_
    rintro e w1 ⟨rfl, rfl⟩
    go_wp2_with fail
    go_ret
    exact ⟨rfl, rfl⟩

theorem sgl_any (u t : Int) (w : World) :
    Calls Try.prog 8 #[.int .u8 u, .int .u8 t] w fun e w' => e = .returned (.bool (sgl u t)) ∧ w' = w := by
  by_cases h3 : t = 3
  · subst h3
    go_enter Try.func8, Try.ntmps8
    go_wp2_with fail
    go_ret
    exact ⟨rfl, rfl⟩
  by_cases h0 : t = 0
  · subst h0
    go_enter Try.func8, Try.ntmps8
    go_wp2_with fail
    all_goals
      go_ret
      exact ⟨ret_bool (by simp [sgl, *]), rfl⟩
  · have HE : sgl u t = (u == t) := by unfold sgl; rw [if_neg h3, if_neg h0]
    rw [HE]
    clear HE
    go_enter Try.func8, Try.ntmps8
    go_wp2_with fail
    go_ret
    exact ⟨rfl, rfl⟩

theorem mem_any (s t : Int) (w : World) (hs0 : 0 ≤ s) (hs : s ≤ 255) :
    Calls Try.prog 6 #[.int .u8 s, .int .u8 t] w fun e w' => e = .returned (.bool (memB s t)) ∧ w' = w := by
  go_enter Try.func6, Try.ntmps6
  go_wp2
  go_loop [5] (fun i => ∃ k : Nat, k ≤ 8 ∧ i = .int .u8 k ∧ ∀ j : Nat, j < k → (hasI s j && sgl j t) = false) (fun i => 8 - (intOf i).toNat)
  case atStart => exact ⟨0, by omega, rfl, by omega⟩
  case round =>
    obtain ⟨k, hk, rfl, hno⟩ := hrel
    have HN : Hid _ := hno
    clear hno
    by_cases hlt : k < 8
    · have hsh := has_shift s k hs0 hs hlt
      cases hb : hasI s k
      · rw [hb] at hsh
        simp only [Bool.false_eq_true, if_false] at hsh
        have HB : Hid _ := hb
        clear hb
        go_wp2_with fail
        go_round
        case rel =>
          refine ⟨k + 1, by omega, by go_num, fun j hj => ?_⟩
          by_cases h : j < k
          · exact HN.out j h
          · obtain rfl : j = k := by omega
            rw [HB.out]; rfl
        case measure => simp [intOf]; omega
      · rw [hb] at hsh
        simp only [if_true] at hsh
        have HB : Hid _ := hb
        clear hb
        go_wp2_with fail
        refine (sgl_any _ _ _).mono ?_
        rintro e w1 ⟨rfl, rfl⟩
        cases hg : sgl k t
        · go_wp2_with fail
          go_round
          case rel =>
            refine ⟨k + 1, by omega, by go_num, fun j hj => ?_⟩
            by_cases h : j < k
            · exact HN.out j h
            · obtain rfl : j = k := by omega
              rw [hg]; simp
          case measure => simp [intOf]; omega
        · go_wp2_with fail
          go_ret
          refine ⟨ret_bool ?_, rfl⟩
          unfold memB
          rw [eq_comm, List.any_eq_true]
          exact ⟨k, List.mem_range.2 hlt, by rw [HB.out, hg]; rfl⟩
    · go_wp2_with fail
      go_ret
      refine ⟨ret_bool ?_, rfl⟩
      unfold memB
      rw [eq_comm, List.any_eq_false]
      intro i hi
      have := HN.out i (by have := List.mem_range.1 hi; omega)
      simp [this]

end Go.Proofs.Qxb6631251a
