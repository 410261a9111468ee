/-
  FnCoversAsksAgreeWithHas: the walk, and the row after the shell.
-/
import Derived.Test.Qxb6631251aWalks
import Derived.WalkKit
import Derived.ProofKit
import Derived.OpenShut
import Derived.ShutString
namespace Go.Proofs.Qxb6631251a.fnCoversAsksAgreeWithHas
open Go.ChangeShapes Go.WideShapes Go.ChangeAt Go.RowKit
open Go.ChangeMaps (open_string shut_string)
set_option linter.unusedVariables false      -- a walk need not use every 'w<i>' (that an integer argument fits its kind)

theorem own : ownKnob Try.prog.godebug = none := by kernel_rfl

/-- Has a bit below k? -/
def anyB (s : Int) (k : Nat) : Bool := (List.range k).any fun i => hasI s i
theorem any_zero (s : Int) : anyB s 0 = false := rfl
theorem any_succ (s : Int) (k : Nat) : anyB s (k + 1) = (anyB s k || hasI s k) := by
  unfold anyB
  rw [List.range_succ]
  simp
theorem d_any : ∀ n : Nat, n < 256 → anyB n 8 = ((n : Int) != 0) := by decide +kernel
theorem any_all (s : Int) (h0 : 0 ≤ s) (h1 : s ≤ 255) : anyB s 8 = (s != 0) := by
  obtain ⟨n, hn, rfl⟩ := nat_of s h0 h1
  exact d_any n hn
theorem has_zero (t : Int) : hasI 0 t = false := by simp [hasI]
theorem cov_ne (s t : Int) (h : covI s t = true) : (s != 0) = true := by
  by_cases e : s = 0
  · subst e
    unfold covI at h
    split at h
    · exact h
    · split at h
      · simp [has_zero] at h
      · simp [has_zero] at h
  · simp [e]

theorem cov_self (s t : Int) (h3 : t ≠ 3) (h0 : t ≠ 0) : covI s t = hasI s t := by
  unfold covI
  rw [if_neg h3, if_neg h0]

set_option maxHeartbeats 4000000 in
theorem walkN (s : Int) (t : Nat) (s0 : 0 ≤ s) (s1 : s ≤ 255) (w : World) :
    Calls Try.prog 4 #[.int .u8 s, .int .u8 t] w fun e w' => e = .returned (.bool true) ∧ Grown w w' := by
  have Hs : Hid (∀ x : Int, 0 ≤ x → Calls Try.prog 7 #[.int .u8 s, .int .u8 x] w fun e w' => e = .returned (.bool (hasI s x)) ∧ w' = w) := fun x hx => has_any s x w s0 s1 hx
  have k3 := cov_any s 3 w s0 s1 (by omega)
  have k0 := cov_any s 0 w s0 s1 (by omega)
  have k1 := cov_any s 1 w s0 s1 (by omega)
  have k2 := cov_any s 2 w s0 s1 (by omega)
  have k4 := cov_any s 4 w s0 s1 (by omega)
  have kt := cov_any s t w s0 s1 (by omega)
  have g1 := has_any s 1 w s0 s1 (by omega)
  have g2 := has_any s 2 w s0 s1 (by omega)
  have g4 := has_any s 4 w s0 s1 (by omega)
  have gt := has_any s t w s0 s1 (by omega)
  have q3 : covI s 3 = (s != 0) := rfl
  have q0 : covI s 0 = (hasI s 1 || hasI s 2 || hasI s 4) := rfl
  have q1 : covI s 1 = hasI s 1 := rfl
  have q2 : covI s 2 = hasI s 2 := rfl
  have q4 : covI s 4 = hasI s 4 := rfl
  rw [q3] at k3
  rw [q0] at k0
  rw [q1] at k1
  rw [q2] at k2
  rw [q4] at k4
  have hcz := cov_ne s t
  have hall := any_all s s0 s1
  have hself : t ≠ 3 → t ≠ 0 → covI s t = hasI s t := fun a b => cov_self s t (by omega) (by omega)
  have hbit : t < 8 → bits .and .u8 (s / 2 ^ t) 1 = if hasI s t then 1 else 0 := fun h => has_shift s t s0 s1 h
  have hhigh : 8 ≤ t → hasI s t = false := fun h => has_high s t s0 s1 (by omega)
  clear q3 q0 q1 q2 q4
  obtain ⟨z, hz⟩ : ∃ z, z = (s != 0) := ⟨_, rfl⟩
  obtain ⟨c, hc⟩ : ∃ c, c = covI s t := ⟨_, rfl⟩
  obtain ⟨x1, h1⟩ : ∃ c, c = hasI s 1 := ⟨_, rfl⟩
  obtain ⟨x2, h2⟩ : ∃ c, c = hasI s 2 := ⟨_, rfl⟩
  obtain ⟨x4, h4⟩ : ∃ c, c = hasI s 4 := ⟨_, rfl⟩
  obtain ⟨h, hh⟩ : ∃ c, c = hasI s t := ⟨_, rfl⟩
  rw [← hz] at k3 hcz hall
  rw [← h1, ← h2, ← h4] at k0
  rw [← h1] at k1 g1
  rw [← h2] at k2 g2
  rw [← h4] at k4 g4
  rw [← hc] at kt hcz hself
  rw [← hh] at gt hself hbit hhigh
  clear hz hc h1 h2 h4 hh
  have K3 : Hid _ := k3
  have K0 : Hid _ := k0
  have K1 : Hid _ := k1
  have K2 : Hid _ := k2
  have K4 : Hid _ := k4
  have KT : Hid _ := kt
  have G1 : Hid _ := g1
  have G2 : Hid _ := g2
  have G4 : Hid _ := g4
  have GT : Hid _ := gt
  have HCZ : Hid _ := hcz
  have HALL : Hid _ := hall
  have HSELF : Hid _ := hself
  have HBIT : Hid _ := hbit
  have HHIGH : Hid _ := hhigh
  clear k3 k0 k1 k2 k4 kt g1 g2 g4 gt hcz hall hself hbit hhigh
  go_enter Try.func4, Try.ntmps4
  go_wp2_with fail
  refine Calls.mono KT.out ?_
  rintro e w1 ⟨rfl, rfl⟩
  go_wp2_with fail
  go_loop [8, 9] (fun a i => ∃ k : Nat, k ≤ 8 ∧ i = .int .u8 k ∧ a = .bool (anyB s k)) (fun _ i => 8 - (intOf i).toNat)
  case atStart => exact ⟨0, by omega, rfl, rfl⟩
  case round =>
    obtain ⟨k, hk, rfl, rfl⟩ := hrel
    by_cases hlt : k < 8
    · have hsh := has_shift s k s0 s1 hlt
      have hsu : Hid _ := any_succ s k
      cases hb : hasI s k <;> cases ha : anyB s k
      all_goals
        rw [hb] at hsh
        simp only [Bool.false_eq_true, if_false, if_true] at hsh
        go_wp2_with fail
        refine Calls.mono (Hs.out _ (by omega)) ?_
        rintro e w1 ⟨rfl, rfl⟩
        rw [hb]
        go_wp2_with fail
        go_round
        case rel => exact ⟨k + 1, by omega, by go_num, by rw [hsu.out, ha, hb]; rfl⟩
        case measure => simp [intOf]; omega
    · obtain rfl : k = 8 := by omega
      rw [HALL.out]
      have hzc : c = false ∧ z = false ∨ c = false ∧ z = true ∨ c = true ∧ z = true := by
        have := HCZ.out
        cases c <;> cases z <;> simp at this ⊢
      clear HALL HCZ
      rcases hzc with ⟨rfl, rfl⟩ | ⟨rfl, rfl⟩ | ⟨rfl, rfl⟩
      all_goals
        go_wp2_with fail
        refine Calls.mono K3.out ?_
        rintro e w1 ⟨rfl, rfl⟩
        go_wp2_with fail
        refine Calls.mono K1.out ?_
        rintro e w1 ⟨rfl, rfl⟩
        go_wp2_with fail
        refine Calls.mono K2.out ?_
        rintro e w1 ⟨rfl, rfl⟩
        go_wp2_with fail
        refine Calls.mono K4.out ?_
        rintro e w1 ⟨rfl, rfl⟩
        go_wp2_with fail
        refine Calls.mono G1.out ?_
        rintro e w1 ⟨rfl, rfl⟩
        go_wp2_with fail
        refine Calls.mono G2.out ?_
        rintro e w1 ⟨rfl, rfl⟩
        go_wp2_with fail
        refine Calls.mono G4.out ?_
        rintro e w1 ⟨rfl, rfl⟩
        go_wp2_with fail
        refine Calls.mono K0.out ?_
        rintro e w1 ⟨rfl, rfl⟩
        clear K0 K1 K2 K4 K3 KT G1 G2 G4 Hs
        have hx : x1 = true ∨ x1 = false ∧ x2 = true ∨ x1 = false ∧ x2 = false := by cases x1 <;> cases x2 <;> simp
        rcases hx with rfl | ⟨rfl, rfl⟩ | ⟨rfl, rfl⟩
        all_goals
          by_cases h0 : t ≤ 0
          · clear GT HSELF HBIT HHIGH
            go_wp2_with fail
            go_ret
            exact ⟨rfl, Grown.refl _⟩
          by_cases h3 : t ≤ 3 ∧ 3 ≤ t
          · obtain ⟨h3, h3'⟩ := h3
            clear GT HSELF HBIT HHIGH
            have n3 : ((t : Int) != 3) = false := by simp; omega
            have n0 : ((t : Int) != 0) = true := by simp; omega
            go_wp2_with fail
            go_ret
            exact ⟨rfl, Grown.refl _⟩
          have hs := HSELF.out (by omega) (by omega)
          clear HSELF
          subst hs
          have n3 : ((t : Int) != 3) = true := by simp; omega
          have n0 : ((t : Int) != 0) = true := by simp; omega
          by_cases h8 : t < 8
          · have hb := HBIT.out h8
            simp only [Bool.false_eq_true, if_false, if_true] at hb
            clear HBIT HHIGH
            go_wp2_with fail
            refine Calls.mono GT.out ?_
            rintro e w1 ⟨rfl, rfl⟩
            go_wp2_with fail
            go_ret
            exact ⟨rfl, Grown.refl _⟩
          · have hb := HHIGH.out (by omega)
            first
              | exact absurd hb (by decide)
              | (clear HBIT HHIGH hb
                 go_wp2_with fail
                 refine Calls.mono GT.out ?_
                 rintro e w1 ⟨rfl, rfl⟩
                 go_wp2_with fail
                 go_ret
                 exact ⟨rfl, Grown.refl _⟩)

/-! ### STEP 1: THE WALK: the Go text returns true. 'Grown w w'': the world has at most new blocks (Derived/RowKit3.lean). Part the cases AHEAD of 'go_enter' where a test parts the walk; take each callee by a contract of your own. -/
theorem walk (a0 : Int) (a1 : Int) (w0 : (Lit.int .u8 a0).wf = true) (w1 : (Lit.int .u8 a1).wf = true) (w : World) :
    Calls Try.prog 4 #[.int .u8 a0, .int .u8 a1] w fun e w' => e = .returned (.bool true) ∧ Grown w w' := by
  have b0 : 0 ≤ a0 ∧ a0 ≤ 255 := by
    have := w0
    simp [Lit.wf, IntKind.min, IntKind.max, IntKind.signed, IntKind.bits] at this
    omega
  have b1 : 0 ≤ a1 ∧ a1 ≤ 255 := by
    have := w1
    simp [Lit.wf, IntKind.min, IntKind.max, IntKind.signed, IntKind.bits] at this
    omega
  clear w0 w1
  obtain ⟨n, _, rfl⟩ := nat_of a1 b1.1 b1.2
  exact walkN a0 n b0.1 b0.2 w

/-! ### THE ROW's STEP: WRITTEN OUT: LEAVE IT -/
set_option maxRecDepth 100000 in
theorem lifted (os : Os) (started : os.Started) (H : Type) (enc : TypeId × Value → H) :
    ReturnsInHanded {} Try.checked os 4 .any (Rows.fnCoversAsksAgreeWithHasSpec.pre6 enc Try.prog Try.f4 Rows.fnCoversAsksAgreeWithHasRow.domain false) (Rows.fnCoversAsksAgreeWithHasSpec.post enc Try.prog Try.f4 false true false false) := by
  refine returnsInHanded_of_change (C := Try.checked) own started (by kernel_rfl) Try.func4
    (ChangeSpec.witness6 (enc := enc) (C := Try.checked) false ⟨#[], #[.int .u8 0, .int .u8 0], []⟩ 8 (by kernel_rfl) (by kernel_rfl) (by kernel_rfl) (by kernel_rfl)) ?_
  intro W base args ds gs before hval0 hW hcnd _
  have hval : ∀ (j : Nat) t v, Try.f4.params[j]? = some t → args[j]? = some v → Value.okWide Try.prog W .any base t v := hval0
  have hW' := hW
  obtain ⟨p, q, hA0, hV, rfl, hfz, hnd⟩ := hW
  have hA : DataW.TrodAll enc Try.prog W 0 (fun _ => true) true Try.f4.params.toList args.toList ds p := hA0
  rw [Try.params4] at hA hval
  obtain ⟨v0, vs0, d0, ds0, p0, q0, hargs, rfl, rfl, h0, r0⟩ := trodAll_cons hA
  obtain ⟨v1, vs1, d1, ds1, p1, q1, rfl, rfl, rfl, h1, r1⟩ := trodAll_cons r0
  obtain ⟨rfl, rfl, rfl⟩ := trodAll_nil r1
  obtain rfl : args = #[v0, v1] := by cases args; simp_all
  obtain ⟨rfl, rfl⟩ := trodVars_none hV
  obtain ⟨a0, rfl, rfl, rfl, w0⟩ := open_int Try.underlying5 (hval 0 5 v0 rfl rfl) h0
  obtain ⟨a1, rfl, rfl, rfl, w1⟩ := open_int Try.underlying5 (hval 1 5 v1 rfl rfl) h1
  clear hA0 hval0
  simp only [List.append_nil] at hW'
  refine (walk a0 a1 w0 w1 W).mono fun e W' ⟨he, hg⟩ => ?_
  subst he
  exact ⟨_, rfl, post_of_same (pa := []) (pv := []) hW' (fun _ _ _ => (trodAll_cons_mk (shut_bool Try.underlying4 _) trodAll_mk0)) (fun sp _ => (trodAll_cons_mk (shut_int Try.underlying5 w0) (trodAll_cons_mk (shut_int Try.underlying5 w1) trodAll_mk0))) (fun _ _ => rfl) rfl
    (hg.frame _) hg.2.1 (ok_one (by kernel_rfl) rfl (okWide_bool_mk Try.underlying4 _))⟩

theorem over : Rows.fnCoversAsksAgreeWithHasRow.holds Try.pinned (OpenSpec.ofChange Rows.fnCoversAsksAgreeWithHasSpec) :=
  OpenClaim.holds_of_wide 4 Try.f4 rfl rfl rfl rfl rfl rfl rfl ⟨rfl, rfl, rfl, rfl, rfl⟩ rfl rfl rfl rfl rfl (by kernel_rfl) Try.func4 (by kernel_rfl)
    (of_decide_eq_true (by kernel_rfl)) (by unfold Func.isWrapper; first | (rw [if_pos (by decide +kernel)]; kernel_rfl) | (rw [if_neg (by decide +kernel)]; exact ⟨rfl, rfl⟩))
    (fun os started H enc _ => lifted os started H enc)

/-- ████ THE STATEMENT ████ -/
theorem proved : Rows.FnCoversAsksAgreeWithHasSaid :=
  over
#print axioms proved
end Go.Proofs.Qxb6631251a.fnCoversAsksAgreeWithHas
