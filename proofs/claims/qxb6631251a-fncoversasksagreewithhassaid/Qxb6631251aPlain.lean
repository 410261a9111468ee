/-
  The plain side of the two laws on TypeSet: sets of types as numbers, no Go in sight.
-/
import Derived.Laws.BitsAllLaws
namespace Go.Proofs.Qxb6631251a

/-- Bit t of s. -/
def hasI (s t : Int) : Bool := s.toNat.testBit t.toNat
/-- What one member u meets. -/
def sgl (u t : Int) : Bool := if t = 3 then true else if t = 0 then (u == 1 || u == 2 || u == 4) else u == t
/-- Covers. -/
def covI (s t : Int) : Bool := if t = 3 then s != 0 else if t = 0 then hasI s 1 || hasI s 2 || hasI s 4 else hasI s t
/-- membersCoverModel. -/
def memB (s t : Int) : Bool := (List.range 8).any fun i => hasI s i && sgl i t

theorem nat_of (s : Int) (h0 : 0 ≤ s) (h1 : s ≤ 255) : ∃ n : Nat, n < 256 ∧ s = n := ⟨s.toNat, by omega, by omega⟩

theorem d_and : ∀ n, n < 256 → ∀ t, t < 8 → ((n &&& 2 ^ t) != 0) = n.testBit t := by decide +kernel
theorem d_shift : ∀ n, n < 256 → ∀ k, k < 8 → (n / 2 ^ k) &&& 1 = if n.testBit k then 1 else 0 := by decide +kernel
theorem d_22 : ∀ n, n < 256 → ((n &&& 22) != 0) = (n.testBit 1 || n.testBit 2 || n.testBit 4) := by decide +kernel
theorem d_mem : ∀ n : Nat, n < 256 → ∀ t : Nat, t < 8 → covI n t = memB n t := by decide +kernel

theorem has_high (s t : Int) (h0 : 0 ≤ s) (h1 : s ≤ 255) (ht : 8 ≤ t) : hasI s t = false := by
  unfold hasI
  apply Nat.testBit_lt_two_pow
  have h2 : 2 ^ 8 ≤ 2 ^ t.toNat := Nat.pow_le_pow_right (by omega) (by omega)
  omega

theorem has_and (s t : Int) (h0 : 0 ≤ s) (h1 : s ≤ 255) (ht : 0 ≤ t) :
    (bits .and .u8 s (2 ^ min t.toNat 8 % 256) != 0) = hasI s t := by
  obtain ⟨n, hn, rfl⟩ := nat_of s h0 h1
  obtain ⟨k, rfl⟩ : ∃ k : Nat, t = k := ⟨t.toNat, by omega⟩
  by_cases hk : k < 8
  · have hp : 2 ^ k ≤ 2 ^ 7 := Nat.pow_le_pow_right (by omega) (by omega)
    have e : (2 : Int) ^ min ((k : Int).toNat) 8 % 256 = ((2 ^ k : Nat) : Int) := by
      rw [show min ((k : Int).toNat) 8 = k by omega]
      have : ((2 : Int) ^ k) = ((2 ^ k : Nat) : Int) := by simp
      rw [this]
      generalize 2 ^ k = m at hp
      omega
    rw [e, u8_and_nat n (2 ^ k) hn (by omega)]
    have := d_and n hn k hk
    unfold hasI
    simp only [Int.toNat_natCast]
    rw [← this]
    rw [Bool.eq_iff_iff]; simp
  · have e : (2 : Int) ^ min ((k : Int).toNat) 8 % 256 = ((0 : Nat) : Int) := by
      rw [show min ((k : Int).toNat) 8 = 8 by omega]; rfl
    rw [e, u8_and_nat n 0 hn (by omega), has_high _ _ h0 h1 (by omega)]
    simp

theorem has_shift (s : Int) (k : Nat) (h0 : 0 ≤ s) (h1 : s ≤ 255) (hk : k < 8) :
    bits .and .u8 (s / 2 ^ k) 1 = if hasI s k then 1 else 0 := by
  obtain ⟨n, hn, rfl⟩ := nat_of s h0 h1
  have e : ((n : Int) / 2 ^ k) = ((n / 2 ^ k : Nat) : Int) := by simp
  have hd : n / 2 ^ k ≤ n := Nat.div_le_self _ _
  rw [e, show (1 : Int) = ((1 : Nat) : Int) from rfl, u8_and_nat _ 1 (by omega) (by omega), d_shift n hn k hk]
  unfold hasI
  simp only [Int.toNat_natCast]
  split <;> rfl

theorem has_22 (s : Int) (h0 : 0 ≤ s) (h1 : s ≤ 255) : (bits .and .u8 s 22 != 0) = (hasI s 1 || hasI s 2 || hasI s 4) := by
  obtain ⟨n, hn, rfl⟩ := nat_of s h0 h1
  rw [show (22 : Int) = ((22 : Nat) : Int) from rfl, u8_and_nat _ 22 (by omega) (by omega)]
  have := d_22 n hn
  unfold hasI
  simp only [Int.toNat_natCast]
  show _ = (n.testBit 1 || n.testBit 2 || n.testBit 4)
  rw [← this, Bool.eq_iff_iff]; simp

theorem cov_mem (s t : Int) (h0 : 0 ≤ s) (h1 : s ≤ 255) (ht : 0 ≤ t) : covI s t = memB s t := by
  obtain ⟨n, hn, rfl⟩ := nat_of s h0 h1
  obtain ⟨k, rfl⟩ : ∃ k : Nat, t = k := ⟨t.toNat, by omega⟩
  by_cases hk : k < 8
  · exact d_mem n hn k hk
  · have e1 : covI n k = false := by
      unfold covI
      rw [if_neg (by omega), if_neg (by omega), has_high _ _ h0 h1 (by omega)]
    rw [e1]
    unfold memB
    rw [eq_comm, List.any_eq_false]
    intro i hi
    have : i < 8 := List.mem_range.1 hi
    unfold sgl
    rw [if_neg (by omega), if_neg (by omega)]
    simp
    intro _
    omega

theorem or_bd (s u : Int) (h0 : 0 ≤ s) (h1 : s ≤ 255) (g0 : 0 ≤ u) (g1 : u ≤ 255) : 0 ≤ bits .or .u8 s u ∧ bits .or .u8 s u ≤ 255 := by
  obtain ⟨n, hn, rfl⟩ := nat_of s h0 h1
  obtain ⟨m, hm, rfl⟩ := nat_of u g0 g1
  rw [u8_or_nat _ _ hn hm]
  have : n ||| m < 2 ^ 8 := Nat.or_lt_two_pow (by omega) (by omega)
  omega

theorem has_or (s u t : Int) (h0 : 0 ≤ s) (h1 : s ≤ 255) (g0 : 0 ≤ u) (g1 : u ≤ 255) : hasI (bits .or .u8 s u) t = (hasI s t || hasI u t) := by
  obtain ⟨n, hn, rfl⟩ := nat_of s h0 h1
  obtain ⟨m, hm, rfl⟩ := nat_of u g0 g1
  rw [u8_or_nat _ _ hn hm]
  unfold hasI
  simp [Nat.testBit_or]

theorem ne_or (s u : Int) (h0 : 0 ≤ s) (h1 : s ≤ 255) (g0 : 0 ≤ u) (g1 : u ≤ 255) : (bits .or .u8 s u != 0) = (s != 0 || u != 0) := by
  obtain ⟨n, hn, rfl⟩ := nat_of s h0 h1
  obtain ⟨m, hm, rfl⟩ := nat_of u g0 g1
  rw [u8_or_nat _ _ hn hm, Bool.eq_iff_iff]
  have a : n ||| m = 0 ↔ n = 0 ∧ m = 0 := by simp [Nat.or_eq_zero_iff]
  simp
  omega

theorem cov_or (s u t : Int) (h0 : 0 ≤ s) (h1 : s ≤ 255) (g0 : 0 ≤ u) (g1 : u ≤ 255) : covI (bits .or .u8 s u) t = (covI s t || covI u t) := by
  unfold covI
  split
  · exact ne_or s u h0 h1 g0 g1
  · split
    · simp only [has_or s u _ h0 h1 g0 g1]
      cases hasI s 1 <;> cases hasI s 2 <;> cases hasI s 4 <;> cases hasI u 1 <;> cases hasI u 2 <;> cases hasI u 4 <;> rfl
    · exact has_or s u t h0 h1 g0 g1

end Go.Proofs.Qxb6631251a
