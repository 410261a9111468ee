/-
  FnLineSharesSplitsAtAnyCut: the walk.
-/
import Derived.Test.Qxb6632223aLine
import Derived.Test.Qxb6632223aBytesA
import Derived.Deep.RegionHeld3
import Derived.Deep.Cut
namespace Go.Proofs.Qxb6632223a.cut
open Go.RowKit

set_option maxHeartbeats 2000000 in
set_option maxRecDepth 100000 in
theorem walk (nm rl : ByteArray) (a0 a1 a2 a3 a4 : Option Addr) (l0 l1 l2 l3 n c0 c1 c2 c3 c4 : Nat) (q : Int) (zs : List Int) (w : World) (h : Ins w a0 a1 a2 a3 a4 l0 l1 l2 l3 zs) (hn : n = zs.length)
    (m0 : l0 ≤ 9223372036854775807) (m1 : l1 ≤ 9223372036854775807) (m2 : l2 ≤ 9223372036854775807) (m3 : l3 ≤ 9223372036854775807)
    (hwf : ∀ x ∈ zs, -9223372036854775808 ≤ x ∧ x ≤ 9223372036854775807) :
    Calls Try.prog 3 #[.string nm, .string rl, .slice a0 l0 c0, .slice a1 l1 c1, .slice a2 l2 c2, .slice a3 l3 c3, .slice a4 n c4, .int .i64 q] w fun e w' =>
      e = .returned (.bool true) ∧ Below w.heap.size w w' := by
  have B5 : Hid _ := bytes5_any nm rl a0 a1 a2 a3 a4 l0 l1 l2 l3 n c0 c1 c2 c3 c4 q w h.1 h.2.1 h.2.2.1 h.2.2.2.1 m0 m1 m2 m3
  have B6 : Hid _ := big_any nm rl a0 a1 a2 a3 a4 l0 l1 l2 l3 n c0 c1 c2 c3 c4 w h.1 h.2.1 h.2.2.1 h.2.2.2.1 m0 m1 m2 m3
  have HI : Hid (Ins w a0 a1 a2 a3 a4 l0 l1 l2 l3 zs) := h
  have HN : Hid _ := hn
  have HW : Hid _ := hwf
  clear h hn hwf m0 m1 m2 m3
  go_enter Try.func3, Try.ntmps3
  go_wp2_with fail
  refine Calls.mono B5.out ?_
  rintro e w1 ⟨⟨b, rfl⟩, rfl⟩
  cases b
  · go_wp2_with fail
    go_ret
    exact ⟨rfl, Below.refl _ _⟩
  go_wp2_with fail
  refine Calls.mono B6.out ?_
  rintro e w2 ⟨rfl | ⟨rfl, hmax⟩, rfl⟩
  · go_wp2_with fail
    go_ret
    exact ⟨rfl, Below.refl _ _⟩
  by_cases q0 : q < 0
  · go_wp2_with fail
    go_ret
    exact ⟨rfl, Below.refl _ _⟩
  by_cases q1 : (n : Int) < q
  · go_wp2_with fail
    go_ret
    exact ⟨rfl, Below.refl _ _⟩
  obtain ⟨k, hk⟩ : ∃ k : Nat, q = k := ⟨q.toNat, by omega⟩
  rw [hk]
  rw [hk] at q0 q1
  have hkn : k ≤ n := by omega
  clear hk B5 B6 q0 q1
  go_upto_region 8 with fail
  go_cut [18] from 23 (fun v wc => ∃ b g, v = .pointer (some ⟨b, 0, none⟩) ∧ LineAt wc b nm rl g n zs ∧ Below w2.heap.size w2 wc)
  case first =>
    go_wp2_with fail
    refine Calls.mono (grants_at HI.out HN.out hmax _ _ 0 n rfl (by simp) (by omega)) ?_
    rintro e wA ⟨g, rfl, hb, hr⟩
    rw [List.drop_zero, List.take_of_length_le (by have := HN.out; omega)] at hr
    go_wp2_with fail
    go_meet
    exact ⟨_, g, rfl, LineAt.made hr HN.out (by omega), hb.alloc hb.size _⟩
  case rest =>
    obtain ⟨w3, hw3⟩ : ∃ x, x = wc := ⟨_, rfl⟩
    subst hw3
    obtain ⟨bA, gA, rfl, lineA, belA⟩ := hcut
    have LA : Hid (LineAt w3 bA nm rl gA n zs) := lineA
    have BA : Hid (Below w2.heap.size w2 w3) := belA
    clear lineA belA
    go_upto_region 9 with fail
    go_cut [19] from 23 (fun v wd => ∃ b g, v = .pointer (some ⟨b, 0, none⟩) ∧ LineAt wd b nm rl g k (zs.take k) ∧ Below w3.heap.size w3 wd)
    case first =>
      go_wp2_with fail
      refine Calls.mono (grants_at (HI.out.below BA.out) HN.out hmax _ _ 0 k rfl (by simp) (by omega)) ?_
      rintro e wA ⟨g, rfl, hb, hr⟩
      rw [List.drop_zero] at hr
      go_wp2_with fail
      go_meet
      exact ⟨_, g, rfl, LineAt.made hr (by have := HN.out; rw [List.length_take]; omega) (by omega), hb.alloc hb.size _⟩
    case rest =>
      obtain ⟨w4, hw4⟩ : ∃ x, x = wc := ⟨_, rfl⟩
      subst hw4
      obtain ⟨bB, gB, rfl, lineB, belB⟩ := hcut
      have LA' : Hid (LineAt w4 bA nm rl gA n zs) := LA.out.below belB
      have LB : Hid (LineAt w4 bB nm rl gB k (zs.take k)) := lineB
      have BB : Hid (Below w2.heap.size w2 w4) := BA.out.trans (belB.mono BA.out.size)
      clear lineB belB LA BA
      go_upto_region 10 with fail
      go_cut [20] from 23 (fun v wd => ∃ b g, v = .pointer (some ⟨b, 0, none⟩) ∧ LineAt wd b nm rl g (n - k) (zs.drop k) ∧ Below w4.heap.size w4 wd)
      case first =>
        go_wp2_with fail
        refine Calls.mono (grants_at (HI.out.below BB.out) HN.out hmax _ _ k (n - k) rfl (by omega) (by omega)) ?_
        rintro e wA ⟨g, rfl, hb, hr⟩
        rw [List.take_of_length_le (by have := HN.out; rw [List.length_drop]; omega)] at hr
        go_wp2_with fail
        go_meet
        exact ⟨_, g, rfl, LineAt.made hr (by have := HN.out; rw [List.length_drop]; omega) (by omega), hb.alloc hb.size _⟩
      case rest =>
        obtain ⟨w5, hw5⟩ : ∃ x, x = wc := ⟨_, rfl⟩
        subst hw5
        obtain ⟨bC, gC, rfl, lineC, belC⟩ := hcut
        have LA : Hid (LineAt w5 bA nm rl gA n zs) := LA'.out.below belC
        have LB' : Hid (LineAt w5 bB nm rl gB k (zs.take k)) := LB.out.below belC
        have LC : Hid (LineAt w5 bC nm rl gC (n - k) (zs.drop k)) := lineC
        have BC : Hid (Below w2.heap.size w2 w5) := BB.out.trans (belC.mono BB.out.size)
        clear lineC belC LA' LB BB
        have KS : Hid (∀ w', Below w5.heap.size w5 w' → (w'.cell? ⟨bA, 0, none⟩ = some (.string nm) ∧ w'.cell? ⟨bA, 1, none⟩ = some (.string rl) ∧ w'.cell? ⟨bA, 2, none⟩ = some (.slice (some ⟨gA, 0, none⟩) n n) ∧
            w'.cell? ⟨bB, 0, none⟩ = some (.string nm) ∧ w'.cell? ⟨bB, 1, none⟩ = some (.string rl) ∧ w'.cell? ⟨bB, 2, none⟩ = some (.slice (some ⟨gB, 0, none⟩) k k) ∧
            w'.cell? ⟨bC, 0, none⟩ = some (.string nm) ∧ w'.cell? ⟨bC, 1, none⟩ = some (.string rl) ∧ w'.cell? ⟨bC, 2, none⟩ = some (.slice (some ⟨gC, 0, none⟩) (n - k) (n - k))) ∧ Below w5.heap.size w5 w') := fun w' hb =>
          ⟨⟨(LA.out.below hb).1.1, (LA.out.below hb).1.2.1, (LA.out.below hb).1.2.2, (LB'.out.below hb).1.1, (LB'.out.below hb).1.2.1, (LB'.out.below hb).1.2.2, (LC.out.below hb).1.1, (LC.out.below hb).1.2.1, (LC.out.below hb).1.2.2⟩, hb⟩
        have SA : Hid (∀ W, Below w5.heap.size w5 W → Calls Try.prog 8 #[.agg #[.string nm, .string rl, .slice (some ⟨gA, 0, none⟩) n n]] W fun e w' => e = .returned (.int .i64 (wrap64 (tot zs))) ∧ Below W.heap.size W w') := fun W hW => (LA.out.below hW).shares
        have SB : Hid (∀ W, Below w5.heap.size w5 W → Calls Try.prog 8 #[.agg #[.string nm, .string rl, .slice (some ⟨gB, 0, none⟩) k k]] W fun e w' => e = .returned (.int .i64 (wrap64 (tot (zs.take k)))) ∧ Below W.heap.size W w') := fun W hW => (LB'.out.below hW).shares
        have SC : Hid (∀ W, Below w5.heap.size w5 W → Calls Try.prog 8 #[.agg #[.string nm, .string rl, .slice (some ⟨gC, 0, none⟩) (n - k) (n - k)]] W fun e w' => e = .returned (.int .i64 (wrap64 (tot (zs.drop k)))) ∧ Below W.heap.size W w') := fun W hW => (LC.out.below hW).shares
        have HS : Hid (wrap64 (tot zs) = wrap64 (wrap64 (tot (zs.take k)) + wrap64 (tot (zs.drop k)))) := by
          show wrap64 (tot zs) = _
          rw [wrap_both, ← tot_append, List.take_append_drop]
        clear LA LB' LC
        go_wp2_with fail
        go_cut [88] from 23 (fun v wd => v = .bool false ∧ Below w5.heap.size w5 wd)
        case first =>
          go_region_held3 (fun w' => (w'.cell? ⟨bA, 0, none⟩ = some (.string nm) ∧ w'.cell? ⟨bA, 1, none⟩ = some (.string rl) ∧ w'.cell? ⟨bA, 2, none⟩ = some (.slice (some ⟨gA, 0, none⟩) n n) ∧
            w'.cell? ⟨bB, 0, none⟩ = some (.string nm) ∧ w'.cell? ⟨bB, 1, none⟩ = some (.string rl) ∧ w'.cell? ⟨bB, 2, none⟩ = some (.slice (some ⟨gB, 0, none⟩) k k) ∧
            w'.cell? ⟨bC, 0, none⟩ = some (.string nm) ∧ w'.cell? ⟨bC, 1, none⟩ = some (.string rl) ∧ w'.cell? ⟨bC, 2, none⟩ = some (.slice (some ⟨gC, 0, none⟩) (n - k) (n - k))) ∧ Below w5.heap.size w5 w')
            (first | exact KS.out _ (below_next (by assumption) (by assumption)) | exact KS.out _ (Below.refl _ _).drew)
            (first
              | (go_at_call_of 8 (Value.slice (some ⟨gA, 0, none⟩) n n); refine Calls.mono (SA.out _ ?_) ?_; exact snd_of (by assumption); rintro e w' ⟨rfl, hb⟩)
              | (go_at_call_of 8 (Value.slice (some ⟨gB, 0, none⟩) k k); refine Calls.mono (SB.out _ ?_) ?_; exact snd_of (by assumption); rintro e w' ⟨rfl, hb⟩)
              | (go_at_call_of 8 (Value.slice (some ⟨gC, 0, none⟩) (n - k) (n - k)); refine Calls.mono (SC.out _ ?_) ?_; exact snd_of (by assumption); rintro e w' ⟨rfl, hb⟩))
          go_wp2_with fail
          go_meet
          exact ⟨by rw [Go.IntWalk.i64_left, ← HS.out]; simp, snd_of (by assumption)⟩
        case rest =>
          obtain ⟨w6, hw6⟩ : ∃ x, x = wc := ⟨_, rfl⟩
          subst hw6
          obtain ⟨rfl, hb5⟩ := hcut
          have BD : Hid (Below w2.heap.size w2 w6) := BC.out.trans (hb5.mono BC.out.size)
          clear hb5 BC KS SA SB SC HS
          by_cases hlt : k < n
          · go_upto_region 14 with fail
            have hkz : k < zs.length := by have := HN.out; omega
            obtain ⟨z, hz⟩ : ∃ z, z = zs[k] := ⟨_, rfl⟩
            have HZ : Hid _ := hz
            clear hz
            go_cut [21] from 23 (fun v wd => ∃ b g, v = .pointer (some ⟨b, 0, none⟩) ∧ LineAt wd b nm rl g 1 [z] ∧ Below w6.heap.size w6 wd)
            case first =>
              go_wp2_with fail
              refine Calls.mono (grants_at (HI.out.below BD.out) HN.out hmax _ _ k 1 rfl (by omega) (by omega)) ?_
              rintro e wA ⟨g, rfl, hb, hr⟩
              rw [take_drop_succ zs k 0 k z rfl hkz HZ.out] at hr
              go_wp2_with fail
              go_meet
              exact ⟨_, g, rfl, LineAt.made hr rfl (by omega), hb.alloc hb.size _⟩
            case rest =>
              obtain ⟨w7, hw7⟩ : ∃ x, x = wc := ⟨_, rfl⟩
              subst hw7
              obtain ⟨bE, gE, rfl, lineE, belE⟩ := hcut
              have BE : Hid (Below w2.heap.size w2 w7) := BD.out.trans (belE.mono BD.out.size)
              obtain ⟨b, off, rfl, hc⟩ := IntRow.below (HI.out.2.2.2.2) BE.out k hkz
              rw [← HZ.out] at hc
              have hk0 : (0 : Int) ≤ (k : Int) := by omega
              have hkn' : (k : Int) < (n : Int) := by omega
              have KS : Hid (∀ w', Below w7.heap.size w7 w' → (w'.cell? ⟨bE, 0, none⟩ = some (.string nm) ∧ w'.cell? ⟨bE, 1, none⟩ = some (.string rl) ∧ w'.cell? ⟨bE, 2, none⟩ = some (.slice (some ⟨gE, 0, none⟩) 1 1) ∧
                  w'.cell? ⟨b, off + k, none⟩ = some (.int .i64 z)) ∧ Below w7.heap.size w7 w') := fun w' hb =>
                ⟨⟨(lineE.below hb).1.1, (lineE.below hb).1.2.1, (lineE.below hb).1.2.2, cell_kept hb (block_lt_of_cell hc) hc⟩, hb⟩
              have SE : Hid (∀ W, Below w7.heap.size w7 W → Calls Try.prog 8 #[.agg #[.string nm, .string rl, .slice (some ⟨gE, 0, none⟩) 1 1]] W fun e w' => e = .returned (.int .i64 z) ∧ Below W.heap.size W w') := fun W hW =>
                (lineE.below hW).shares.mono fun e w' hh => ⟨hh.1.trans (ret_int (by simp only [tot]; rw [Int.add_zero]; exact wrap_id z (by rw [HZ.out]; exact (HW.out _ (List.getElem_mem hkz)).1) (by rw [HZ.out]; exact (HW.out _ (List.getElem_mem hkz)).2))), hh.2⟩
              clear lineE belE hc BD
              go_wp2_with fail
              go_cut [110] from 23 (fun v wd => v = .bool false ∧ Below w7.heap.size w7 wd)
              case first =>
                go_region_held3 (fun w' => (w'.cell? ⟨bE, 0, none⟩ = some (.string nm) ∧ w'.cell? ⟨bE, 1, none⟩ = some (.string rl) ∧ w'.cell? ⟨bE, 2, none⟩ = some (.slice (some ⟨gE, 0, none⟩) 1 1) ∧
                    w'.cell? ⟨b, off + k, none⟩ = some (.int .i64 z)) ∧ Below w7.heap.size w7 w')
                  (first | exact KS.out _ (below_next (by assumption) (by assumption)) | exact KS.out _ (Below.refl _ _).drew)
                  (first | (go_at_call_of 8 (Value.slice (some ⟨gE, 0, none⟩) 1 1); refine Calls.mono (SE.out _ ?_) ?_; exact snd_of (by assumption); rintro e w' ⟨rfl, hb⟩))
                go_wp2_with fail
                go_meet
                exact ⟨by simp, snd_of (by assumption)⟩
              case rest =>
                obtain ⟨w8, hw8⟩ : ∃ x, x = wc := ⟨_, rfl⟩
                subst hw8
                obtain ⟨rfl, hb7⟩ := hcut
                have BF : Hid (Below w2.heap.size w2 w8) := BE.out.trans (hb7.mono BE.out.size)
                clear hb7 BE KS SE
                go_wp2_with fail
                refine Calls.mono (shares_nil nm rl _) ?_
                rintro e w9 ⟨rfl, hb9⟩
                go_wp2_with fail
                go_ret
                exact ⟨rfl, (BF.out.alloc BF.out.size _).trans (hb9.mono (by rw [size_alloc]; have := BF.out.size; omega))⟩
          · go_wp2_with fail
            refine Calls.mono (shares_nil nm rl _) ?_
            rintro e w9 ⟨rfl, hb9⟩
            go_wp2_with fail
            go_ret
            exact ⟨rfl, (BD.out.alloc BD.out.size _).trans (hb9.mono (by rw [size_alloc]; have := BD.out.size; omega))⟩
end Go.Proofs.Qxb6632223a.cut
