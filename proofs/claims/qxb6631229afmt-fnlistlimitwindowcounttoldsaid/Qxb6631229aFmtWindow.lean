/-
  FnListLimitWindowCount: the plain law, the walk, the row's step, the told card.
-/
import Derived.Test.Qxb6631229aFmtFacts
import Derived.Test.Qxb6631229aFmtCards
import Derived.ProofKit
import Derived.SevenToldRow
import Derived.Stop.JoinedTold
namespace Go.Proofs.Qxb6631229aFmt.window
open Go.ChangeShapes Go.WideShapes Go.ChangeAt Go.RowKit
open Go.Extern.Stop Go.Stop Go.Extern

theorem ret_bool {b : Bool} (h : b = true) : Ending.returned (.bool b) = .returned (.bool true) := by rw [h]

/-- How many of s, s+1, .., s+k-1 lie in 1 .. 1000. -/
def cnt (s : Int) (k : Nat) : Int := max 0 (min (s + k) 1001 - max s 1)
theorem cnt_zero (s : Int) : cnt s 0 = 0 := by unfold cnt; omega
theorem cnt_in (s : Int) (k : Nat) (h1 : 1 ≤ s + k) (h2 : s + k ≤ 1000) : cnt s (k + 1) = cnt s k + 1 := by unfold cnt; omega
theorem cnt_out (s : Int) (k : Nat) (h : s + k < 1 ∨ 1000 < s + k) : cnt s (k + 1) = cnt s k := by unfold cnt; omega
theorem cnt_bd (s : Int) (k : Nat) : 0 ≤ cnt s k ∧ cnt s k ≤ 1000 := by unfold cnt; omega

/-- The walk: whatever the window, true. -/
theorem walk (F : Interp) (a0 a1 : Int) (w : World) (hF : F.answers w.tape) (b1 : -9223372036854775808 ≤ a0) (b2 : a0 ≤ 9223372036854775807) (d1 : -9223372036854775808 ≤ a1) (d2 : a1 ≤ 9223372036854775807) :
    Calls Tryf.prog 3 #[.int .i64 a0, .int .i64 a1] w fun e w' => e = .returned (.bool true) ∧ Kept w w' := by
  by_cases c0 : a1 < 0
  · go_enter Tryf.func3, Tryf.ntmps3
    go_wp2
    go_ret
    exact ⟨rfl, Kept.refl _⟩
  by_cases c1 : 65536 < a1
  · go_enter Tryf.func3, Tryf.ntmps3
    go_wp2
    go_ret
    exact ⟨rfl, Kept.refl _⟩
  by_cases c2 : 9223372036854775807 - a1 < a0
  · go_enter Tryf.func3, Tryf.ntmps3
    go_wp2
    go_ret
    exact ⟨rfl, Kept.refl _⟩
  obtain ⟨n, rfl⟩ : ∃ n : Nat, a1 = n := ⟨a1.toNat, by omega⟩
  go_enter Tryf.func3, Tryf.ntmps3
  go_wp2
  go_loopw [5, 6] (fun c i wr => ∃ k : Nat, k ≤ n ∧ i = .int .i64 k ∧ c = .int .i64 (cnt a0 k) ∧ Kept w wr) (fun _ i _ => n - (intOf i).toNat)
  case atStart => exact ⟨0, Nat.zero_le _, rfl, by rw [cnt_zero], Kept.refl _⟩
  case round =>
    obtain ⟨k, hk, rfl, rfl, hkw⟩ := hrel
    have hb := cnt_bd a0 k
    by_cases hlt : k < n
    · by_cases hin : 1 ≤ a0 + k ∧ a0 + k ≤ 1000
      · obtain ⟨hi1, hi2⟩ := hin
        go_wp2_with fail
        refine (limit_ok _ _ (by omega) (by omega)).mono ?_
        rintro e w2 ⟨rfl, rfl⟩
        go_wp2_with fail
        go_roundw
        case rel => exact ⟨k + 1, by omega, by go_num, by rw [cnt_in _ _ hi1 hi2], hkw⟩
        case measure => simp [intOf]; omega
      · go_wp2_with fail
        refine (limit_bad F _ _ (hkw.answers hF) (by omega)).mono ?_
        rintro e w1 ⟨⟨x, rfl⟩, k1⟩
        go_wp2_with fail
        go_roundw
        case rel => exact ⟨k + 1, by omega, by go_num, by rw [cnt_out _ _ (by omega)], hkw.trans k1⟩
        case measure => simp [intOf]; omega
    · obtain rfl : k = n := by omega
      go_wp2_with fail
      all_goals
        go_ret
        exact ⟨ret_bool (by unfold cnt; simp; omega), hkw⟩

theorem own : ownKnob Tryf.prog.godebug = none := by kernel_rfl
theorem laidOut : laidOutB Tryf.pinned.checked.prog = true := by kernel_rfl
theorem stops : Tryf.pinned.checked.prog.stops = ["fmt.errorf"] := by kernel_rfl
theorem stopKnobs : Tryf.pinned.checked.prog.stopKnobs = [] := by kernel_rfl
theorem quiet (os : Os) : Stop.quiet Tryf.pinned.checked.prog os := by
  intro k hk
  rw [stopKnobs] at hk
  cases hk

set_option maxRecDepth 100000 in
theorem lifted (os : Os) (started : os.Started) (H : Type) (enc : TypeId × Value → H) :
    ReturnsInTold Option.none {} Tryf.checked os 3 .any Input.okWide ((OpenSpec.ofChange Rows.fnListLimitWindowCountSpec).preRow enc Tryf.prog Tryf.f3 Rows.fnListLimitWindowCountRow.domain false []) (fun F => ((OpenSpec.ofChange Rows.fnListLimitWindowCountSpec).at F).post enc Tryf.prog Tryf.f3 false true false false) (aloneAtReturn Tryf.prog) nothingAlways := by
  refine returnsInTold_of_row (C := Tryf.checked) (s := OpenSpec.ofChange Rows.fnListLimitWindowCountSpec) (by kernel_rfl) own started (by kernel_rfl) Tryf.func3
    (OpenSpec.witness_stopped (enc := enc) (C := Tryf.checked) false ⟨#[], #[.int .i64 1, .int .i64 1], []⟩ 8 (by kernel_rfl) (by kernel_rfl) (by kernel_rfl) (by kernel_rfl)) ?_
  intro F W base args ds gs before _ hF hval0 hW _ _ hsz _ _
  have hval : ∀ (j : Nat) t v, Tryf.f3.params[j]? = some t → args[j]? = some v → Value.okWide Tryf.prog W .any base t v := hval0
  have hW' := hW
  obtain ⟨p, q, hA0, hV, rfl, hfz, hnd⟩ := hW
  have hA : DataW.TrodAll enc Tryf.prog W 0 (fun _ => true) true Tryf.f3.params.toList args.toList ds p := hA0
  rw [Tryf.params3] at hA hval
  obtain ⟨v0, v1, d0, d1, p0, p1, rfl, rfl, rfl, h0, h1⟩ := trodAll_two hA
  obtain ⟨rfl, rfl⟩ := trodVars_none hV
  obtain ⟨a0, rfl, rfl, rfl, w0⟩ := open_int Tryf.underlying3 (hval 0 3 v0 rfl rfl) h0
  obtain ⟨a1, rfl, rfl, rfl, w1⟩ := open_int Tryf.underlying3 (hval 1 3 v1 rfl rfl) h1
  clear hA0 hval0
  have hb : -9223372036854775808 ≤ a0 ∧ a0 ≤ 9223372036854775807 := by
    have := w0
    simp [Lit.wf, IntKind.min, IntKind.max, IntKind.signed, IntKind.bits] at this
    omega
  have hb1 : -9223372036854775808 ≤ a1 ∧ a1 ≤ 9223372036854775807 := by
    have := w1
    simp [Lit.wf, IntKind.min, IntKind.max, IntKind.signed, IntKind.bits] at this
    omega
  refine (walk F.told a0 a1 W hF hb.1 hb.2 hb1.1 hb1.2).mono fun e W' ⟨he, hg⟩ => ?_
  subst he
  exact ⟨_, rfl, post_of_same (pa := []) (pv := []) hW' (fun _ _ _ => trodAll_mk1 (shut_bool Tryf.underlying4 _)) (fun sp _ => trodAll_mk2 (shut_int Tryf.underlying3 w0) (shut_int Tryf.underlying3 w1)) (fun _ _ => rfl) rfl
    (hg.1.frame _) hg.1.2.1 (ok_one (by kernel_rfl) rfl (okWide_bool_mk Tryf.underlying4 _))⟩

theorem proved : Rows.FnListLimitWindowCountToldSaid :=
  Claim7.holds_of_told_any 3 Tryf.f3 "fmt.errorf" [] [] _ _ _ (by kernel_rfl) rfl rfl rfl laidOut (by kernel_rfl) rfl ⟨rfl, rfl, rfl, rfl, rfl, rfl, rfl⟩ rfl rfl (by kernel_rfl) (by kernel_rfl) Tryf.func3 (by kernel_rfl)
    (of_decide_eq_true (by kernel_rfl)) (of_decide_eq_true (by kernel_rfl)) stops.symm rfl stopKnobs.symm (by kernel_rfl)
    (by kernel_rfl) (by kernel_rfl) (by kernel_rfl) (by kernel_rfl) (by kernel_rfl) (by kernel_rfl) (by kernel_rfl) (by kernel_rfl) (by kernel_rfl) rfl (by kernel_rfl) rfl rfl
    rfl rfl
    rfl (by kernel_rfl) (by kernel_rfl) (by kernel_rfl) (by decide) (by kernel_rfl)
    (OpenClaim.moreEntering_of (by kernel_rfl) (by kernel_rfl) (by kernel_rfl) (by kernel_rfl) (by kernel_rfl) (by kernel_rfl) (by kernel_rfl) (by kernel_rfl) (by kernel_rfl) (by kernel_rfl))
    ⟨_, WideRow.started_initial, quiet _⟩
    (fun os started _ H enc _ => lifted os started H enc)
#print axioms proved

end Go.Proofs.Qxb6631229aFmt.window
