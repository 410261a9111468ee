/-
  FnListLimitShiftByMaxTiles: the walk, the row's step, the told card.
-/
import Derived.Test.Qxb6631229aFmtFacts
import Derived.Test.Qxb6631229aFmtCards
import Derived.ProofKit
import Derived.SevenToldRow
import Derived.Stop.JoinedTold
namespace Go.Proofs.Qxb6631229aFmt.shift
open Go.ChangeShapes Go.WideShapes Go.ChangeAt Go.RowKit
open Go.Extern.Stop Go.Stop Go.Extern

theorem ret_bool {b : Bool} (h : b = true) : Ending.returned (.bool b) = .returned (.bool true) := by rw [h]

/-- The walk: whatever the limit, true. -/
theorem walk (F : Interp) (a0 : Int) (w : World) (hF : F.answers w.tape) (b1 : -9223372036854775808 ≤ a0) (b2 : a0 ≤ 9223372036854775807) :
    Calls Tryf.prog 4 #[.int .i64 a0] w fun e w' => e = .returned (.bool true) ∧ Kept w w' := by
  by_cases c0 : 9223372036854774807 < a0
  · go_enter Tryf.func4, Tryf.ntmps4
    go_wp2
    go_ret
    exact ⟨rfl, Kept.refl _⟩
  · by_cases c1 : a0 < -999
    · go_enter Tryf.func4, Tryf.ntmps4
      go_wp2_with fail
      refine (limit_bad F a0 _ hF (by omega)).mono ?_
      rintro e w1 ⟨⟨x, rfl⟩, k1⟩
      go_wp2_with fail
      refine (limit_bad F _ _ (k1.answers hF) (by omega)).mono ?_
      rintro e w2 ⟨⟨y, rfl⟩, k2⟩
      go_wp2_with fail
      go_ret
      exact ⟨rfl, k1.trans k2⟩
    · by_cases c2 : a0 < 1
      · go_enter Tryf.func4, Tryf.ntmps4
        go_wp2_with fail
        refine (limit_bad F a0 _ hF (by omega)).mono ?_
        rintro e w1 ⟨⟨x, rfl⟩, k1⟩
        go_wp2_with fail
        refine (limit_ok _ _ (by omega) (by omega)).mono ?_
        rintro e w2 ⟨rfl, rfl⟩
        go_wp2_with fail
        go_ret
        exact ⟨ret_bool (by simp; omega), k1⟩
      · by_cases c3 : a0 ≤ 1000
        · go_enter Tryf.func4, Tryf.ntmps4
          go_wp2_with fail
          refine (limit_ok _ _ (by omega) (by omega)).mono ?_
          rintro e w2 ⟨rfl, rfl⟩
          go_wp2_with fail
          refine (limit_bad F _ _ hF (by omega)).mono ?_
          rintro e w1 ⟨⟨x, rfl⟩, k1⟩
          go_wp2_with fail
          go_ret
          exact ⟨ret_bool (by simp; omega), k1⟩
        · go_enter Tryf.func4, Tryf.ntmps4
          go_wp2_with fail
          refine (limit_bad F a0 _ hF (by omega)).mono ?_
          rintro e w1 ⟨⟨x, rfl⟩, k1⟩
          go_wp2_with fail
          refine (limit_bad F _ _ (k1.answers hF) (by omega)).mono ?_
          rintro e w2 ⟨⟨y, rfl⟩, k2⟩
          go_wp2_with fail
          go_ret
          exact ⟨ret_bool (by simp; omega), k1.trans k2⟩

theorem own : ownKnob Tryf.prog.godebug = none := by kernel_rfl
theorem laidOut : laidOutB Tryf.pinned.checked.prog = true := by kernel_rfl
theorem stops : Tryf.pinned.checked.prog.stops = ["fmt.errorf"] := by kernel_rfl
theorem stopKnobs : Tryf.pinned.checked.prog.stopKnobs = [] := by kernel_rfl
theorem quiet (os : Os) : Stop.quiet Tryf.pinned.checked.prog os := by
  intro k hk
  rw [stopKnobs] at hk
  cases hk

set_option maxRecDepth 100000 in
theorem lifted (os : Os) (started : os.Started) (H : Type) (enc : TypeId × Value → H) :
    ReturnsInTold Option.none {} Tryf.checked os 4 .any Input.okWide ((OpenSpec.ofChange Rows.fnListLimitShiftByMaxTilesSpec).preRow enc Tryf.prog Tryf.f4 Rows.fnListLimitShiftByMaxTilesRow.domain false []) (fun F => ((OpenSpec.ofChange Rows.fnListLimitShiftByMaxTilesSpec).at F).post enc Tryf.prog Tryf.f4 false true false false) (aloneAtReturn Tryf.prog) nothingAlways := by
  refine returnsInTold_of_row (C := Tryf.checked) (s := OpenSpec.ofChange Rows.fnListLimitShiftByMaxTilesSpec) (by kernel_rfl) own started (by kernel_rfl) Tryf.func4
    (OpenSpec.witness_stopped (enc := enc) (C := Tryf.checked) false ⟨#[], #[.int .i64 1], []⟩ 8 (by kernel_rfl) (by kernel_rfl) (by kernel_rfl) (by kernel_rfl)) ?_
  intro F W base args ds gs before _ hF hval0 hW _ _ hsz _ _
  have hval : ∀ (j : Nat) t v, Tryf.f4.params[j]? = some t → args[j]? = some v → Value.okWide Tryf.prog W .any base t v := hval0
  have hW' := hW
  obtain ⟨p, q, hA0, hV, rfl, hfz, hnd⟩ := hW
  have hA : DataW.TrodAll enc Tryf.prog W 0 (fun _ => true) true Tryf.f4.params.toList args.toList ds p := hA0
  rw [Tryf.params4] at hA hval
  obtain ⟨v0, d0, rfl, rfl, h0⟩ := trodAll_one hA
  obtain ⟨rfl, rfl⟩ := trodVars_none hV
  obtain ⟨a0, rfl, rfl, rfl, w0⟩ := open_int Tryf.underlying3 (hval 0 3 v0 rfl rfl) h0
  clear hA0 hval0
  have hb : -9223372036854775808 ≤ a0 ∧ a0 ≤ 9223372036854775807 := by
    have := w0
    simp [Lit.wf, IntKind.min, IntKind.max, IntKind.signed, IntKind.bits] at this
    omega
  refine (walk F.told a0 W hF hb.1 hb.2).mono fun e W' ⟨he, hg⟩ => ?_
  subst he
  exact ⟨_, rfl, post_of_same (pa := []) (pv := []) hW' (fun _ _ _ => trodAll_mk1 (shut_bool Tryf.underlying4 _)) (fun sp _ => trodAll_mk1 (shut_int Tryf.underlying3 w0)) (fun _ _ => rfl) rfl
    (hg.1.frame _) hg.1.2.1 (ok_one (by kernel_rfl) rfl (okWide_bool_mk Tryf.underlying4 _))⟩

theorem proved : Rows.FnListLimitShiftByMaxTilesToldSaid :=
  Claim7.holds_of_told_any 4 Tryf.f4 "fmt.errorf" [] [] _ _ _ (by kernel_rfl) rfl rfl rfl laidOut (by kernel_rfl) rfl ⟨rfl, rfl, rfl, rfl, rfl, rfl, rfl⟩ rfl rfl (by kernel_rfl) (by kernel_rfl) Tryf.func4 (by kernel_rfl)
    (of_decide_eq_true (by kernel_rfl)) (of_decide_eq_true (by kernel_rfl)) stops.symm rfl stopKnobs.symm (by kernel_rfl)
    (by kernel_rfl) (by kernel_rfl) (by kernel_rfl) (by kernel_rfl) (by kernel_rfl) (by kernel_rfl) (by kernel_rfl) (by kernel_rfl) (by kernel_rfl) rfl (by kernel_rfl) rfl rfl
    rfl rfl
    rfl (by kernel_rfl) (by kernel_rfl) (by kernel_rfl) (by decide) (by kernel_rfl)
    (OpenClaim.moreEntering_of (by kernel_rfl) (by kernel_rfl) (by kernel_rfl) (by kernel_rfl) (by kernel_rfl) (by kernel_rfl) (by kernel_rfl) (by kernel_rfl) (by kernel_rfl) (by kernel_rfl))
    ⟨_, WideRow.started_initial, quiet _⟩
    (fun os started _ H enc _ => lifted os started H enc)
#print axioms proved

end Go.Proofs.Qxb6631229aFmt.shift
