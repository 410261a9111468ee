/-
  FnLineSharesGrowsByInsertedGrant: the walk.
-/
import Derived.Test.Qxb6632223aLine
import Derived.Test.Qxb6632223aBytesB
import Derived.Deep.RegionHeld3
import Derived.Deep.Cut
namespace Go.Proofs.Qxb6632223a.ins
open Go.RowKit

/-- A grant in its box. -/
def GBox (w : World) (b : Nat) (s0 s1 s2 s3 : ByteArray) (x : Int) : Prop :=
  w.cell? ⟨b, 0, none⟩ = some (.string s0) ∧ w.cell? ⟨b, 1, none⟩ = some (.string s1) ∧ w.cell? ⟨b, 2, none⟩ = some (.string s2) ∧ w.cell? ⟨b, 3, none⟩ = some (.string s3) ∧ w.cell? ⟨b, 4, none⟩ = some (.int .i64 x)
theorem GBox.below {w w' : World} {b : Nat} {s0 s1 s2 s3 : ByteArray} {x : Int} (h : GBox w b s0 s1 s2 s3 x) (hb : Below w.heap.size w w') : GBox w' b s0 s1 s2 s3 x :=
  ⟨cell_kept hb (block_lt_of_cell h.1) h.1, cell_kept hb (block_lt_of_cell h.2.1) h.2.1, cell_kept hb (block_lt_of_cell h.2.2.1) h.2.2.1, cell_kept hb (block_lt_of_cell h.2.2.2.1) h.2.2.2.1, cell_kept hb (block_lt_of_cell h.2.2.2.2) h.2.2.2.2⟩
theorem GBox.made (w : World) (s0 s1 s2 s3 : ByteArray) (x : Int) : GBox (w.alloc (.cells #[.string s0, .string s1, .string s2, .string s3, .int .i64 x] 33)) w.heap.size s0 s1 s2 s3 x := by
  have hb := heap_alloc_new w (.cells #[.string s0, .string s1, .string s2, .string s3, .int .i64 x] 33)
  refine ⟨?_, ?_, ?_, ?_, ?_⟩
  · rw [cell_of_row _ _ 0 _ 33 (0, 0) hb]; rfl
  · rw [cell_of_row _ _ 1 _ 33 (0, 0) hb]; rfl
  · rw [cell_of_row _ _ 2 _ 33 (0, 0) hb]; rfl
  · rw [cell_of_row _ _ 3 _ 33 (0, 0) hb]; rfl
  · rw [cell_of_row _ _ 4 _ 33 (0, 0) hb]; rfl

theorem take_rev (ws : List Int) (t y : Nat) (z : Int) (h : y + t + 1 = ws.length) (hy : y < ws.length) (hz : z = ws[y]) : ws.reverse.take (t + 1) = ws.reverse.take t ++ [z] := by
  rw [List.take_succ_eq_append_getElem (by rw [List.length_reverse]; omega), List.getElem_reverse, hz]
  congr
  omega

set_option maxHeartbeats 4000000 in
set_option maxRecDepth 100000 in
theorem walk (nm rl : ByteArray) (a0 a1 a2 a3 a4 : Option Addr) (l0 l1 l2 l3 n c0 c1 c2 c3 c4 : Nat) (q : Int) (gp gg : ByteArray) (x : Int) (zs : List Int) (w : World) (h : Ins w a0 a1 a2 a3 a4 l0 l1 l2 l3 zs) (hn : n = zs.length)
    (m0 : l0 ≤ 9223372036854775807) (m1 : l1 ≤ 9223372036854775807) (m2 : l2 ≤ 9223372036854775807) (m3 : l3 ≤ 9223372036854775807) :
    Calls Try.prog 4 #[.string nm, .string rl, .slice a0 l0 c0, .slice a1 l1 c1, .slice a2 l2 c2, .slice a3 l3 c3, .slice a4 n c4, .int .i64 q, .string gp, .string gg, .int .i64 x] w fun e w' =>
      e = .returned (.bool true) ∧ Below w.heap.size w w' := by
  have B9 : Hid _ := bytes9_any nm rl a0 a1 a2 a3 a4 l0 l1 l2 l3 n c0 c1 c2 c3 c4 q gp gg x w h.1 h.2.1 h.2.2.1 h.2.2.2.1 m0 m1 m2 m3
  have B6 : Hid _ := big_any nm rl a0 a1 a2 a3 a4 l0 l1 l2 l3 n c0 c1 c2 c3 c4 w h.1 h.2.1 h.2.2.1 h.2.2.2.1 m0 m1 m2 m3
  have HI : Hid (Ins w a0 a1 a2 a3 a4 l0 l1 l2 l3 zs) := h
  have HN : Hid _ := hn
  obtain ⟨i0, hi0, hz0, hz1, hz2⟩ := info_parts info33
  clear h hn m0 m1 m2 m3
  go_enter Try.func4, Try.ntmps4
  go_wp2_with fail
  refine Calls.mono B9.out ?_
  rintro e w1 ⟨⟨b, rfl⟩, rfl⟩
  cases b
  · go_wp2_with fail
    go_ret
    exact ⟨rfl, Below.refl _ _⟩
  go_wp2_with fail
  refine Calls.mono B6.out ?_
  rintro e w2 ⟨rfl | ⟨rfl, hmax⟩, rfl⟩
  · go_wp2_with fail
    go_ret
    exact ⟨rfl, Below.refl _ _⟩
  by_cases g0 : 1048576 < (gp.size : Int)
  · go_wp2_with fail
    go_ret
    exact ⟨rfl, Below.refl _ _⟩
  by_cases g1 : 1048576 < (gg.size : Int)
  · go_wp2_with fail
    go_ret
    exact ⟨rfl, Below.refl _ _⟩
  by_cases g2 : 1048576 < (gp.size : Int) + (gg.size : Int)
  · go_wp2_with fail
    go_ret
    exact ⟨rfl, Below.refl _ _⟩
  by_cases q0 : q < 0
  · go_wp2_with fail
    go_ret
    exact ⟨rfl, Below.refl _ _⟩
  by_cases q1 : (n : Int) < q
  · go_wp2_with fail
    go_ret
    exact ⟨rfl, Below.refl _ _⟩
  obtain ⟨k, hk⟩ : ∃ k : Nat, q = k := ⟨q.toNat, by omega⟩
  rw [hk]
  rw [hk] at q0 q1
  have hkn : k ≤ n := by omega
  clear hk B9 B6
  go_upto_region 10 with fail
  clear g0 g1 g2 q0 q1
  go_cut [24] from 34 (fun v wc => ∃ g, v = .slice (some ⟨g, 0, none⟩) n n ∧ GrantRow wc (some ⟨g, 0, none⟩) zs ∧ Below w2.heap.size w2 wc)
  case first =>
    go_wp2_with fail
    refine Calls.mono (grants_at HI.out HN.out hmax _ _ 0 n rfl (by simp) (by omega)) ?_
    rintro e wA ⟨g, rfl, hb, hr⟩
    rw [List.drop_zero, List.take_of_length_le (by have := HN.out; omega)] at hr
    go_wp2_with fail
    go_meet
    exact ⟨g, rfl, hr, hb⟩
  case rest =>
    obtain ⟨w3, hw3⟩ : ∃ x, x = wc := ⟨_, rfl⟩
    subst hw3
    obtain ⟨gA, rfl, rowA, belA⟩ := hcut
    have RA : Hid (GrantRow w3 (some ⟨gA, 0, none⟩) zs) := rowA
    have BA : Hid (Below w2.heap.size w2 w3) := belA
    clear rowA belA HI
    go_upto_region 11 with fail
    go_cut [25] from 34 (fun v wc => ∃ b, v = .pointer (some ⟨b, 0, none⟩) ∧ GBox wc b gp nm rl gg x ∧ Below w3.heap.size w3 wc)
    case first =>
      go_wp2_with fail
      go_meet
      exact ⟨_, rfl, GBox.made _ _ _ _ _ _, (Below.refl _ _).alloc (Nat.le_refl _) _⟩
    case rest =>
      obtain ⟨w5, hw5⟩ : ∃ x, x = wc := ⟨_, rfl⟩
      subst hw5
      obtain ⟨bG, rfl, boxG, belG⟩ := hcut
      have RB : Hid (GrantRow w5 (some ⟨gA, 0, none⟩) zs) := RA.out.below belG
      have GB : Hid (GBox w5 bG gp nm rl gg x) := boxG
      have BB : Hid (Below w2.heap.size w2 w5) := BA.out.trans (belG.mono BA.out.size)
      clear boxG belG RA BA
      go_wp2_with (first | (at_make; refine wpList_make_own _ rfl _ _ 26 rfl w5.heap.size 33 i0 (.agg #[.string ⟨#[]⟩, .string ⟨#[]⟩, .string ⟨#[]⟩, .string ⟨#[]⟩, .int .i64 0]) 5 Try.underlying26 hi0 hz0 hz1 _ _ _ (n + 1) rfl rfl (by omega) (by rw [hz2]; omega) (by unfold maxLen; omega) (Nat.le_refl _) ?_; intro w6 hown hgrow))
      go_loopw [26, 27] (fun v i wr => ∃ (j : Nat) (cs : List Value), j ≤ k ∧ i = .int .i64 j ∧ v = .slice (some ⟨w5.heap.size, 0, none⟩) j (n + 1) ∧ wr.ownsRow w5.heap.size 33 5 (.slice (some ⟨w5.heap.size, 0, none⟩) j (n + 1)) j cs ∧
          GCells cs (zs.take j) ∧ Below w5.heap.size w5 wr) (fun _ i _ => k - (intOf i).toNat)
      case atStart => exact ⟨0, [], Nat.zero_le _, rfl, rfl, hown, by simpa using GCells.nil, (Below.refl _ _).grown hgrow (Nat.le_refl _) (by simp)⟩
      case round =>
        obtain ⟨j, cs, hj, rfl, rfl, ho, hg, hbel⟩ := hrel
        clear hown hgrow
        by_cases hlt : j < k
        · have hjz : j < zs.length := by have := HN.out; omega
          obtain ⟨g, s0, s1, s2, s3, e, r0, r1, r2, r3, r4⟩ := GrantRow.below RB.out hbel j hjz
          cases e
          obtain ⟨z, hz⟩ : ∃ z, z = zs[j] := ⟨_, rfl⟩
          rw [← hz] at r4
          have HZ : Hid _ := hz
          clear hz
          go_wp2_with (first | (at_builtin; refine wpList_append_fits _ rfl (.tmp 101) (.tmp 106) 26 rfl w5.heap.size 33 i0 5 Try.underlying26 hi0 hz1 w5.heap.size j (n + 1) cs rfl (by exact ho.alloc _) ⟨wr.heap.size, 0, none⟩ 1 1 [.string s0, .string s1, .string s2, .string s3, .int .i64 z] rfl rfl ?c1 ?c2 ?c3 ?_))
          case c1 => exact fun i u hi => new_cells _ _ 33 _ i u rfl hi
          case c2 => exact grant_ones s0 s1 s2 s3 z
          case c3 => omega
          intro w7 hown2 hgrow2
          have HC : Hid (GCells (cs ++ [.string s0, .string s1, .string s2, .string s3, .int .i64 z]) (zs.take (j + 1))) := by
            have := take_drop_succ zs 0 j j z (by omega) hjz HZ.out
            rw [List.drop_zero] at this
            rw [this]
            exact hg.snoc s0 s1 s2 s3 z
          have hbel2 : Below w5.heap.size w5 w7 := (hbel.alloc hbel.size _).grown hgrow2 (by rw [size_alloc]; have := hbel.size; omega) (by intro y e; cases e; exact Nat.le_refl _)
          clear hgrow2 hg ho hbel r0 r1 r2 r3 r4
          go_wp2_with fail
          go_roundw
          case rel => exact ⟨j + 1, _, by omega, by go_num, rfl, hown2, HC.out, hbel2⟩
          case measure => simp [intOf]; omega
        · obtain rfl : j = k := by omega
          obtain ⟨r0, r1, r2, r3, r4⟩ := GB.out.below hbel
          go_wp2_with (first | (at_builtin; refine wpList_append_fits _ rfl (.tmp 108) (.tmp 110) 26 rfl w5.heap.size 33 i0 5 Try.underlying26 hi0 hz1 w5.heap.size j (n + 1) cs rfl (by exact ho.alloc _) ⟨wr.heap.size, 0, none⟩ 1 1 [.string gp, .string nm, .string rl, .string gg, .int .i64 x] rfl rfl ?d1 ?d2 ?d3 ?_))
          case d1 => exact fun i u hi => new_cells _ _ 33 _ i u rfl hi
          case d2 => exact grant_ones gp nm rl gg x
          case d3 => omega
          intro w7 hown2 hgrow2
          have HC : Hid (GCells (cs ++ [.string gp, .string nm, .string rl, .string gg, .int .i64 x]) (zs.take j ++ [x])) := hg.snoc gp nm rl gg x
          have hbel2 : Below w5.heap.size w5 w7 := (hbel.alloc hbel.size _).grown hgrow2 (by rw [size_alloc]; have := hbel.size; omega) (by intro y e; cases e; exact Nat.le_refl _)
          clear hgrow2 hg ho hbel r0 r1 r2 r3 r4 GB
          go_wp2_with fail
          go_loopw [26, 28] (fun v i wq => ∃ (p t : Nat) (cs : List Value), p = j + t ∧ p ≤ n ∧ i = .int .i64 p ∧ v = .slice (some ⟨w5.heap.size, 0, none⟩) (j + 1 + t) (n + 1) ∧
              wq.ownsRow w5.heap.size 33 5 (.slice (some ⟨w5.heap.size, 0, none⟩) (j + 1 + t) (n + 1)) (j + 1 + t) cs ∧ GCells cs (zs.take j ++ [x] ++ (zs.drop j).take t) ∧ Below w5.heap.size w5 wq) (fun _ i _ => n - (intOf i).toNat)
          case atStart => exact ⟨j, 0, _, rfl, by omega, rfl, rfl, hown2, by simpa using HC.out, hbel2⟩
          case round =>
            clear hown2 HC hbel2
            obtain ⟨p, t, cs, hp, hpn, rfl, rfl, ho, hg, hbel⟩ := hrel
            have HP : Hid _ := hp
            clear hp
            obtain ⟨w8, hw8⟩ : ∃ y, y = wr := ⟨_, rfl⟩
            subst hw8
            by_cases hlt : p < n
            · have hjz : p < zs.length := by have := HN.out; omega
              obtain ⟨g, s0, s1, s2, s3, e, r0, r1, r2, r3, r4⟩ := GrantRow.below RB.out hbel p hjz
              cases e
              obtain ⟨z, hz⟩ : ∃ z, z = zs[p] := ⟨_, rfl⟩
              rw [← hz] at r4
              have HZ : Hid _ := hz
              clear hz
              go_wp2_with (first | (at_builtin; refine wpList_append_fits _ rfl (.tmp 118) (.tmp 123) 26 rfl w5.heap.size 33 i0 5 Try.underlying26 hi0 hz1 w5.heap.size (j + 1 + t) (n + 1) cs rfl (by exact ho.alloc _) ⟨w8.heap.size, 0, none⟩ 1 1 [.string s0, .string s1, .string s2, .string s3, .int .i64 z] rfl rfl ?e1 ?e2 ?e3 ?_))
              case e1 => exact fun i u hi => new_cells _ _ 33 _ i u rfl hi
              case e2 => exact grant_ones s0 s1 s2 s3 z
              case e3 => have := HP.out; omega
              intro w9 hown2 hgrow2
              have HC : Hid (GCells (cs ++ [.string s0, .string s1, .string s2, .string s3, .int .i64 z]) (zs.take j ++ [x] ++ (zs.drop j).take (t + 1))) := by
                rw [take_drop_succ zs j t p z HP.out hjz HZ.out, ← List.append_assoc]
                exact hg.snoc s0 s1 s2 s3 z
              have hbel2 : Below w5.heap.size w5 w9 := (hbel.alloc hbel.size _).grown hgrow2 (by rw [size_alloc]; have := hbel.size; omega) (by intro y e; cases e; exact Nat.le_refl _)
              clear hgrow2 hg ho hbel r0 r1 r2 r3 r4
              go_wp2_with fail
              go_roundw
              case rel => exact ⟨p + 1, t + 1, _, by have := HP.out; omega, by omega, by go_num, rfl, hown2, HC.out, hbel2⟩
              case measure => simp [intOf]; omega
            · have ht : j + 1 + t = n + 1 := by have := HP.out; omega
              rw [ht] at ho
              rw [ht]
              obtain ⟨ws, hws⟩ : ∃ ws, ws = zs.take j ++ [x] ++ zs.drop j := ⟨_, rfl⟩
              rw [List.take_of_length_le (i := t) (by have := HN.out; rw [List.length_drop]; omega), ← hws] at hg
              have hwl : ws.length = n + 1 := by rw [hws]; have := HN.out; simp; omega
              have HT : Hid (tot ws = tot zs + x) := by
                show tot ws = tot zs + x
                have e : tot zs = tot (zs.take j) + tot (zs.drop j) := by rw [← tot_append, List.take_append_drop]
                rw [hws, tot_append, tot_append, e]
                simp only [tot]
                omega
              have HL : Hid _ := hwl
              have RW : Hid (GrantRow w8 (some ⟨w5.heap.size, 0, none⟩) ws) := GCells.row hg (by rw [hwl]; exact ho)
              have RC : Hid (GrantRow w8 (some ⟨gA, 0, none⟩) zs) := RB.out.below hbel
              have BC : Hid (Below w2.heap.size w2 w8) := BB.out.trans (hbel.mono BB.out.size)
              clear hws hwl ht hg ho hbel RB BB
              go_wp2_with (first | (at_make; refine wpList_make_own _ rfl _ _ 26 rfl w8.heap.size 33 i0 (.agg #[.string ⟨#[]⟩, .string ⟨#[]⟩, .string ⟨#[]⟩, .string ⟨#[]⟩, .int .i64 0]) 5 Try.underlying26 hi0 hz0 hz1 _ _ _ (n + 1) rfl rfl (by omega) (by rw [hz2]; omega) (by unfold maxLen; omega) (Nat.le_refl _) ?_; intro w9 hown hgrow))
              go_loopw [29, 30] (fun v i wq => ∃ (t : Nat) (m : Int) (cs : List Value), t ≤ n + 1 ∧ m = (n : Int) - (t : Int) ∧ i = .int .i64 m ∧ v = .slice (some ⟨w8.heap.size, 0, none⟩) t (n + 1) ∧
                  wq.ownsRow w8.heap.size 33 5 (.slice (some ⟨w8.heap.size, 0, none⟩) t (n + 1)) t cs ∧ GCells cs (ws.reverse.take t) ∧ Below w8.heap.size w8 wq) (fun _ i _ => (intOf i + 1).toNat)
              case atStart => exact ⟨0, _, [], by omega, by omega, rfl, rfl, hown, by simpa using GCells.nil, (Below.refl _ _).grown hgrow (Nat.le_refl _) (by simp)⟩
              case round =>
                clear hown hgrow
                obtain ⟨t, m, cs, htn, hm, rfl, rfl, ho, hg, hbel⟩ := hrel
                obtain ⟨w10, hw10⟩ : ∃ y, y = wr := ⟨_, rfl⟩
                subst hw10
                by_cases hlt : t < n + 1
                · obtain ⟨y, hy⟩ : ∃ y : Nat, m = y := ⟨m.toNat, by omega⟩
                  have hyt : y + t = n := by omega
                  have HY : Hid _ := hyt
                  subst hy
                  clear hm hyt
                  have hyw : y < ws.length := by have := HL.out; have := HY.out; omega
                  have hyn : (y : Int) < (n : Int) + 1 := by have := HY.out; omega
                  obtain ⟨g, s0, s1, s2, s3, e, r0, r1, r2, r3, r4⟩ := GrantRow.below RW.out hbel y hyw
                  cases e
                  obtain ⟨z, hz⟩ : ∃ z, z = ws[y] := ⟨_, rfl⟩
                  rw [← hz] at r4
                  have HZ : Hid _ := hz
                  clear hz
                  go_wp2_with (first | (at_builtin; refine wpList_append_fits _ rfl (.tmp 135) (.tmp 140) 26 rfl w8.heap.size 33 i0 5 Try.underlying26 hi0 hz1 w8.heap.size t (n + 1) cs rfl (by exact ho.alloc _) ⟨w10.heap.size, 0, none⟩ 1 1 [.string s0, .string s1, .string s2, .string s3, .int .i64 z] rfl rfl ?f1 ?f2 ?f3 ?_))
                  case f1 => exact fun i u hi => new_cells _ _ 33 _ i u rfl hi
                  case f2 => exact grant_ones s0 s1 s2 s3 z
                  case f3 => omega
                  intro w11 hown2 hgrow2
                  have HC : Hid (GCells (cs ++ [.string s0, .string s1, .string s2, .string s3, .int .i64 z]) (ws.reverse.take (t + 1))) := by
                    rw [take_rev ws t y z (by have := HL.out; have := HY.out; omega) hyw HZ.out]
                    exact hg.snoc s0 s1 s2 s3 z
                  have hbel2 : Below w8.heap.size w8 w11 := (hbel.alloc hbel.size _).grown hgrow2 (by rw [size_alloc]; have := hbel.size; omega) (by intro y e; cases e; exact Nat.le_refl _)
                  clear hgrow2 hg ho hbel r0 r1 r2 r3 r4
                  go_wp2_with fail
                  go_roundw
                  case rel => exact ⟨t + 1, _, _, by omega, by have := HY.out; omega, rfl, rfl, hown2, HC.out, hbel2⟩
                  case measure => simp [intOf]
                · have ht : t = n + 1 := by omega
                  have hm0 : m < 0 := by omega
                  subst ht
                  rw [List.take_of_length_le (by have := HL.out; rw [List.length_reverse]; omega)] at hg
                  have RR : Hid (GrantRow w10 (some ⟨w8.heap.size, 0, none⟩) ws.reverse) := GCells.row hg (by have := HL.out; rw [List.length_reverse, this]; exact ho)
                  have RW' : Hid (GrantRow w10 (some ⟨w5.heap.size, 0, none⟩) ws) := RW.out.below hbel
                  have RC' : Hid (GrantRow w10 (some ⟨gA, 0, none⟩) zs) := RC.out.below hbel
                  have BD : Hid (Below w2.heap.size w2 w10) := BC.out.trans (hbel.mono BC.out.size)
                  clear hg ho hbel hm RW RC BC
                  obtain ⟨gB, hgB⟩ : ∃ y, y = w5.heap.size := ⟨_, rfl⟩
                  obtain ⟨gC, hgC⟩ : ∃ y, y = w8.heap.size := ⟨_, rfl⟩
                  rw [← hgB] at RW'
                  rw [← hgC] at RR
                  rw [← hgB, ← hgC]
                  clear hgB hgC
                  go_upto_region 27 with fail
                  go_cut [31] from 34 (fun v wc => ∃ b, v = .pointer (some ⟨b, 0, none⟩) ∧ LineAt wc b nm rl gA n zs ∧ Below w10.heap.size w10 wc)
                  case first =>
                    go_wp2_with fail
                    go_meet
                    exact ⟨_, rfl, LineAt.made RC'.out HN.out (by omega), (Below.refl _ _).alloc (Nat.le_refl _) _⟩
                  case rest =>
                    obtain ⟨w11, hw11⟩ : ∃ y, y = wc := ⟨_, rfl⟩
                    subst hw11
                    obtain ⟨b1, rfl, line1, bel1⟩ := hcut
                    have L1 : Hid (LineAt w11 b1 nm rl gA n zs) := line1
                    have RR1 : Hid (GrantRow w11 (some ⟨gC, 0, none⟩) ws.reverse) := RR.out.below bel1
                    have RW1 : Hid (GrantRow w11 (some ⟨gB, 0, none⟩) ws) := RW'.out.below bel1
                    have BE : Hid (Below w2.heap.size w2 w11) := BD.out.trans (bel1.mono BD.out.size)
                    clear line1 bel1 RR RW' RC' BD
                    go_upto_region 28 with fail
                    go_cut [32] from 34 (fun v wc => ∃ b, v = .pointer (some ⟨b, 0, none⟩) ∧ LineAt wc b nm rl gB (n + 1) ws ∧ Below w11.heap.size w11 wc)
                    case first =>
                      go_wp2_with fail
                      go_meet
                      exact ⟨_, rfl, LineAt.made RW1.out HL.out.symm (by omega), (Below.refl _ _).alloc (Nat.le_refl _) _⟩
                    case rest =>
                      obtain ⟨w12, hw12⟩ : ∃ y, y = wc := ⟨_, rfl⟩
                      subst hw12
                      obtain ⟨b2, rfl, line2, bel2⟩ := hcut
                      have L1' : Hid (LineAt w12 b1 nm rl gA n zs) := L1.out.below bel2
                      have L2 : Hid (LineAt w12 b2 nm rl gB (n + 1) ws) := line2
                      have RR2 : Hid (GrantRow w12 (some ⟨gC, 0, none⟩) ws.reverse) := RR1.out.below bel2
                      have BF : Hid (Below w2.heap.size w2 w12) := BE.out.trans (bel2.mono BE.out.size)
                      clear line2 bel2 RR1 RW1 BE L1
                      go_upto_region 29 with fail
                      go_cut [33] from 34 (fun v wc => ∃ b, v = .pointer (some ⟨b, 0, none⟩) ∧ LineAt wc b nm rl gC (n + 1) ws.reverse ∧ Below w12.heap.size w12 wc)
                      case first =>
                        go_wp2_with fail
                        go_meet
                        exact ⟨_, rfl, LineAt.made RR2.out (by rw [List.length_reverse]; exact HL.out.symm) (by omega), (Below.refl _ _).alloc (Nat.le_refl _) _⟩
                      case rest =>
                        obtain ⟨w13, hw13⟩ : ∃ y, y = wc := ⟨_, rfl⟩
                        subst hw13
                        obtain ⟨b3, rfl, line3, bel3⟩ := hcut
                        have L1 : Hid (LineAt w13 b1 nm rl gA n zs) := L1'.out.below bel3
                        have L2' : Hid (LineAt w13 b2 nm rl gB (n + 1) ws) := L2.out.below bel3
                        have L3 : Hid (LineAt w13 b3 nm rl gC (n + 1) ws.reverse) := line3
                        have BG : Hid (Below w2.heap.size w2 w13) := BF.out.trans (bel3.mono BF.out.size)
                        clear line3 bel3 RR2 BF L1' L2
                        have KS : Hid (∀ w', Below w13.heap.size w13 w' → (w'.cell? ⟨b1, 0, none⟩ = some (.string nm) ∧ w'.cell? ⟨b1, 1, none⟩ = some (.string rl) ∧ w'.cell? ⟨b1, 2, none⟩ = some (.slice (some ⟨gA, 0, none⟩) n n) ∧ w'.cell? ⟨b2, 0, none⟩ = some (.string nm) ∧ w'.cell? ⟨b2, 1, none⟩ = some (.string rl) ∧ w'.cell? ⟨b2, 2, none⟩ = some (.slice (some ⟨gB, 0, none⟩) (n + 1) (n + 1)) ∧ w'.cell? ⟨b3, 0, none⟩ = some (.string nm) ∧ w'.cell? ⟨b3, 1, none⟩ = some (.string rl) ∧ w'.cell? ⟨b3, 2, none⟩ = some (.slice (some ⟨gC, 0, none⟩) (n + 1) (n + 1))) ∧ Below w13.heap.size w13 w') := fun w' hb =>
                          ⟨⟨(L1.out.below hb).1.1, (L1.out.below hb).1.2.1, (L1.out.below hb).1.2.2, (L2'.out.below hb).1.1, (L2'.out.below hb).1.2.1, (L2'.out.below hb).1.2.2, (L3.out.below hb).1.1, (L3.out.below hb).1.2.1, (L3.out.below hb).1.2.2⟩, hb⟩
                        have S1 : Hid (∀ W, Below w13.heap.size w13 W → Calls Try.prog 8 #[.agg #[.string nm, .string rl, .slice (some ⟨gA, 0, none⟩) n n]] W fun e w' => e = .returned (.int .i64 (wrap64 (tot zs))) ∧ Below W.heap.size W w') := fun W hW => (L1.out.below hW).shares
                        have S2 : Hid (∀ W, Below w13.heap.size w13 W → Calls Try.prog 8 #[.agg #[.string nm, .string rl, .slice (some ⟨gB, 0, none⟩) (n + 1) (n + 1)]] W fun e w' => e = .returned (.int .i64 (wrap64 (tot ws))) ∧ Below W.heap.size W w') := fun W hW => (L2'.out.below hW).shares
                        have S3 : Hid (∀ W, Below w13.heap.size w13 W → Calls Try.prog 8 #[.agg #[.string nm, .string rl, .slice (some ⟨gC, 0, none⟩) (n + 1) (n + 1)]] W fun e w' => e = .returned (.int .i64 (wrap64 (tot ws))) ∧ Below W.heap.size W w') := fun W hW =>
                          (L3.out.below hW).shares.mono fun e w' hh => ⟨hh.1.trans (ret_int (by rw [tot_reverse])), hh.2⟩
                        have HS : Hid (wrap64 (tot ws) = wrap64 (wrap64 (tot zs) + x)) := by
                          show wrap64 (tot ws) = _
                          rw [wrap_step, HT.out]
                        clear L1 L2' L3 HT
                        go_wp2_with fail
                        go_cut [160] from 34 (fun v wd => v = .bool false ∧ Below w13.heap.size w13 wd)
                        case first =>
                          go_region_held3 (fun w' => (w'.cell? ⟨b1, 0, none⟩ = some (.string nm) ∧ w'.cell? ⟨b1, 1, none⟩ = some (.string rl) ∧ w'.cell? ⟨b1, 2, none⟩ = some (.slice (some ⟨gA, 0, none⟩) n n) ∧ w'.cell? ⟨b2, 0, none⟩ = some (.string nm) ∧ w'.cell? ⟨b2, 1, none⟩ = some (.string rl) ∧ w'.cell? ⟨b2, 2, none⟩ = some (.slice (some ⟨gB, 0, none⟩) (n + 1) (n + 1)) ∧ w'.cell? ⟨b3, 0, none⟩ = some (.string nm) ∧ w'.cell? ⟨b3, 1, none⟩ = some (.string rl) ∧ w'.cell? ⟨b3, 2, none⟩ = some (.slice (some ⟨gC, 0, none⟩) (n + 1) (n + 1))) ∧ Below w13.heap.size w13 w')
                            (first | exact KS.out _ (below_next (by assumption) (by assumption)) | exact KS.out _ (Below.refl _ _).drew)
                            (first
                              | (go_at_call_of 8 gA; refine Calls.mono (S1.out _ ?_) ?_; exact snd_of (by assumption); rintro e w' ⟨rfl, hb⟩)
                              | (go_at_call_of 8 gB; refine Calls.mono (S2.out _ ?_) ?_; exact snd_of (by assumption); rintro e w' ⟨rfl, hb⟩)
                              | (go_at_call_of 8 gC; refine Calls.mono (S3.out _ ?_) ?_; exact snd_of (by assumption); rintro e w' ⟨rfl, hb⟩))
                          go_wp2_with fail
                          go_meet
                          exact ⟨by rw [Go.IntWalk.i64_left, ← HS.out]; simp, snd_of (by assumption)⟩
                        case rest =>
                          obtain ⟨w14, hw14⟩ : ∃ y, y = wc := ⟨_, rfl⟩
                          subst hw14
                          obtain ⟨rfl, hb14⟩ := hcut
                          have BH : Hid (Below w13.heap.size w13 w14) := hb14
                          clear hb14 HS
                          go_wp2_with fail
                          go_cut [22] from 34 (fun v wd => v = .bool true ∧ Below w13.heap.size w13 wd)
                          case first =>
                            go_region_held3 (fun w' => (w'.cell? ⟨b1, 0, none⟩ = some (.string nm) ∧ w'.cell? ⟨b1, 1, none⟩ = some (.string rl) ∧ w'.cell? ⟨b1, 2, none⟩ = some (.slice (some ⟨gA, 0, none⟩) n n) ∧ w'.cell? ⟨b2, 0, none⟩ = some (.string nm) ∧ w'.cell? ⟨b2, 1, none⟩ = some (.string rl) ∧ w'.cell? ⟨b2, 2, none⟩ = some (.slice (some ⟨gB, 0, none⟩) (n + 1) (n + 1)) ∧ w'.cell? ⟨b3, 0, none⟩ = some (.string nm) ∧ w'.cell? ⟨b3, 1, none⟩ = some (.string rl) ∧ w'.cell? ⟨b3, 2, none⟩ = some (.slice (some ⟨gC, 0, none⟩) (n + 1) (n + 1))) ∧ Below w13.heap.size w13 w')
                              (first | exact KS.out _ (below_next (by assumption) (by assumption)) | exact KS.out _ (Below.drew BH.out))
                              (first
                                | (go_at_call_of 8 gA; refine Calls.mono (S1.out _ ?_) ?_; exact snd_of (by assumption); rintro e w' ⟨rfl, hb⟩)
                                | (go_at_call_of 8 gB; refine Calls.mono (S2.out _ ?_) ?_; exact snd_of (by assumption); rintro e w' ⟨rfl, hb⟩)
                                | (go_at_call_of 8 gC; refine Calls.mono (S3.out _ ?_) ?_; exact snd_of (by assumption); rintro e w' ⟨rfl, hb⟩))
                            go_wp2_with fail
                            go_meet
                            exact ⟨by simp, snd_of (by assumption)⟩
                          case rest =>
                            obtain ⟨rfl, hb15⟩ := hcut
                            go_wp2_with fail
                            go_ret
                            exact ⟨rfl, BG.out.trans (hb15.mono BG.out.size)⟩

end Go.Proofs.Qxb6632223a.ins
