/-
  The plain side of Split: where range i begins. No Go in sight.
-/
namespace Go.Proofs.Qxb6631294a

/-- The first slot of range k, of n ranges. -/
def F (n k : Nat) : Int := (k : Int) * (16384 / (n : Int)) + min (k : Int) (16384 % (n : Int))

theorem F_zero (n : Nat) : F n 0 = 0 := by
  unfold F
  have : 0 ≤ (16384 : Int) % (n : Int) := by
    by_cases h : (n : Int) = 0
    · rw [h]; simp
    · exact Int.emod_nonneg _ h
  simp
  omega
theorem F_lo (n k : Nat) (h : (k : Int) < 16384 % (n : Int)) : F n (k + 1) = F n k + (16384 / (n : Int) + 1) := by
  unfold F
  rw [Int.natCast_add, Int.add_mul]
  omega
theorem F_hi (n k : Nat) (h : ¬ (k : Int) < 16384 % (n : Int)) : F n (k + 1) = F n k + 16384 / (n : Int) := by
  unfold F
  rw [Int.natCast_add, Int.add_mul]
  omega
theorem q_pos (n : Nat) (h1 : 1 ≤ n) (h2 : n ≤ 16384) : 1 ≤ 16384 / (n : Int) ∧ 16384 / (n : Int) ≤ 16384 :=
  ⟨(Int.le_ediv_iff_mul_le (by omega)).2 (by omega), Int.ediv_le_self _ (by omega)⟩
theorem F_step (n k : Nat) : F n (k + 1) = F n k + 16384 / (n : Int) ∨ F n (k + 1) = F n k + (16384 / (n : Int) + 1) := by
  by_cases h : (k : Int) < 16384 % (n : Int)
  · exact .inr (F_lo n k h)
  · exact .inl (F_hi n k h)
theorem F_all (n : Nat) (h1 : 1 ≤ n) : F n n = 16384 := by
  unfold F
  have h : (16384 : Int) % n < n := Int.emod_lt_of_pos _ (by omega)
  have := Int.mul_ediv_add_emod 16384 n
  omega
theorem F_mono (n k m : Nat) (h1 : 1 ≤ n) (h2 : n ≤ 16384) : F n k ≤ F n (k + m) := by
  induction m with
  | zero => exact Int.le_refl _
  | succ m ih =>
    have := q_pos n h1 h2
    have := F_step n (k + m)
    rw [← Nat.add_assoc]
    omega
theorem F_bd (n k : Nat) (h1 : 1 ≤ n) (h2 : n ≤ 16384) (hk : k ≤ n) : 0 ≤ F n k ∧ F n k ≤ 16384 := by
  have a := F_mono n 0 k h1 h2
  have b := F_mono n k (n - k) h1 h2
  rw [F_zero, Nat.zero_add] at a
  rw [Nat.add_sub_cancel' hk, F_all n h1] at b
  exact ⟨a, b⟩
end Go.Proofs.Qxb6631294a
