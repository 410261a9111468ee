/-
  The contract of zzGrants.
-/
import Derived.Test.Qxb6632223aShares
import Derived.Deep.RegionHeld3
import Derived.Deep.CutRange
namespace Go.Proofs.Qxb6632223a
open Go.RowKit

theorem info33 : (Try.prog.info? 33).map (fun i => (i.zero, i.size, i.bytes)) = some (some (.agg #[.string ⟨#[]⟩, .string ⟨#[]⟩, .string ⟨#[]⟩, .string ⟨#[]⟩, .int .i64 0]), 5, 72) := by kernel_rfl

/-- The cells of a row of grants. -/
def GCells (cs : List Value) (xs : List Int) : Prop :=
  cs.length = xs.length * 5 ∧ ∀ (j : Nat) (h : j < xs.length), ∃ s0 s1 s2 s3, cs[j * 5]? = some (.string s0) ∧ cs[j * 5 + 1]? = some (.string s1) ∧ cs[j * 5 + 1 + 1]? = some (.string s2) ∧
    cs[j * 5 + 1 + 1 + 1]? = some (.string s3) ∧ cs[j * 5 + 1 + 1 + 1 + 1]? = some (.int .i64 xs[j])
theorem GCells.nil : GCells [] [] := ⟨rfl, fun j hj => by simp at hj⟩
theorem GCells.snoc {cs : List Value} {xs : List Int} (h : GCells cs xs) (s0 s1 s2 s3 : ByteArray) (x : Int) :
    GCells (cs ++ [.string s0, .string s1, .string s2, .string s3, .int .i64 x]) (xs ++ [x]) := by
  refine ⟨by simp [h.1]; omega, fun j hj => ?_⟩
  have hl := h.1
  by_cases e : j < xs.length
  · obtain ⟨t0, t1, t2, t3, h0, h1, h2, h3, h4⟩ := h.2 j e
    refine ⟨t0, t1, t2, t3, ?_, ?_, ?_, ?_, ?_⟩
    · rw [List.getElem?_append_left (by omega)]; exact h0
    · rw [List.getElem?_append_left (by omega)]; exact h1
    · rw [List.getElem?_append_left (by omega)]; exact h2
    · rw [List.getElem?_append_left (by omega)]; exact h3
    · rw [List.getElem?_append_left (by omega), List.getElem_append_left e]; exact h4
  · obtain rfl : j = xs.length := by simp at hj; omega
    refine ⟨s0, s1, s2, s3, ?_, ?_, ?_, ?_, ?_⟩
    · rw [← hl]; simp
    · rw [List.getElem?_append_right (by omega), show xs.length * 5 + 1 - cs.length = 1 by omega]; rfl
    · rw [List.getElem?_append_right (by omega), show xs.length * 5 + 1 + 1 - cs.length = 2 by omega]; rfl
    · rw [List.getElem?_append_right (by omega), show xs.length * 5 + 1 + 1 + 1 - cs.length = 3 by omega]; rfl
    · rw [List.getElem?_append_right (by omega), show xs.length * 5 + 1 + 1 + 1 + 1 - cs.length = 4 by omega]; simp
theorem GCells.row {w : World} {base g cap : Nat} {cs : List Value} {xs : List Int} (h : GCells cs xs) (ho : w.ownsRow base 33 5 (.slice (some ⟨g, 0, none⟩) xs.length cap) xs.length cs) :
    GrantRow w (some ⟨g, 0, none⟩) xs := by
  intro j hj
  obtain ⟨s0, s1, s2, s3, h0, h1, h2, h3, h4⟩ := h.2 j hj
  refine ⟨g, s0, s1, s2, s3, rfl, ?_, ?_, ?_, ?_, ?_⟩
  · rw [ho.cellAt _ (by omega)]; exact h0
  · rw [ho.cellAt _ (by omega)]; exact h1
  · rw [ho.cellAt _ (by omega)]; exact h2
  · rw [ho.cellAt _ (by omega)]; exact h3
  · rw [ho.cellAt _ (by omega)]; exact h4

/-- The cells of a new block. -/
theorem new_cells (w : World) (l : List Value) (t : TypeId) (g j : Nat) (u : Value) (hg : g = w.heap.size) (h : l[j]? = some u) : (w.alloc (.cells l.toArray t)).cell? ((⟨g, 0, none⟩ : Addr).add j) = some u := by
  subst hg
  have e : (⟨w.heap.size, 0, none⟩ : Addr).add j = ⟨w.heap.size, j, none⟩ := by unfold Addr.add; split <;> simp_all
  rw [e, cell_of_row _ _ j l.toArray t (0, 0) (heap_alloc_new w _)]
  simpa using h
theorem grant_ones (s0 s1 s2 s3 : ByteArray) (x : Int) : ∀ u ∈ [Value.string s0, .string s1, .string s2, .string s3, .int .i64 x], u.oneCell' = true := by
  intro u hu
  simp only [List.mem_cons, List.not_mem_nil, or_false] at hu
  rcases hu with rfl | rfl | rfl | rfl | rfl <;> rfl
theorem size_alloc (w : World) (o : Obj) : (w.alloc o).heap.size = w.heap.size + 1 := by
  show (w.heap.push o).size = _
  simp

theorem take_drop_succ (zs : List Int) (lo k p : Nat) (z : Int) (hp : p = lo + k) (h : p < zs.length) (hz : z = zs[p]) : (zs.drop lo).take (k + 1) = (zs.drop lo).take k ++ [z] := by
  subst hp
  rw [List.take_succ_eq_append_getElem (by rw [List.length_drop]; omega), List.getElem_drop, hz]

set_option maxHeartbeats 1000000 in
theorem grants_any (a0 a1 a2 a3 a4 : Option Addr) (l0 l1 l2 l3 n c0 c1 c2 c3 c4 lo hi : Nat) (zs : List Int) (w : World) (h0 : StrRow w a0 l0) (h1 : StrRow w a1 l1) (h2 : StrRow w a2 l2) (h3 : StrRow w a3 l3) (h4 : IntRow w a4 zs)
    (hn : n = zs.length) (hlo : lo ≤ hi) (hhi : hi ≤ n) (hmax : n ≤ 65536) :
    Calls Try.prog 7 #[.slice a0 l0 c0, .slice a1 l1 c1, .slice a2 l2 c2, .slice a3 l3 c3, .slice a4 n c4, .int .i64 lo, .int .i64 hi] w fun e w' =>
      e = .returned (.slice (some ⟨w.heap.size, 0, none⟩) (hi - lo) (hi - lo)) ∧ Below w.heap.size w w' ∧ w.heap.size < w'.heap.size ∧ GrantRow w' (some ⟨w.heap.size, 0, none⟩) ((zs.drop lo).take (hi - lo)) := by
  obtain ⟨i0, hi0, hz0, hz1, hz2⟩ := info_parts info33
  obtain ⟨d, rfl⟩ : ∃ d, hi = lo + d := ⟨hi - lo, by omega⟩
  rw [Nat.add_sub_cancel_left]
  have H0 : Hid (StrRow w a0 l0) := h0
  have H1 : Hid (StrRow w a1 l1) := h1
  have H2 : Hid (StrRow w a2 l2) := h2
  have H3 : Hid (StrRow w a3 l3) := h3
  have H4 : Hid (IntRow w a4 zs) := h4
  have HN : Hid _ := hn
  clear h0 h1 h2 h3 h4 hn
  go_enter Try.func7, Try.ntmps7
  go_wp2_with (first | (at_make; refine wpList_make_own _ rfl _ _ 26 rfl w.heap.size 33 i0 (.agg #[.string ⟨#[]⟩, .string ⟨#[]⟩, .string ⟨#[]⟩, .string ⟨#[]⟩, .int .i64 0]) 5 Try.underlying26 hi0 hz0 hz1 _ _ _ d rfl rfl (by omega) (by rw [hz2]; omega) (by unfold maxLen; omega) (Nat.le_refl _) ?_; intro w1 hown hgrow))
  go_loopw [15, 16] (fun v i wr => ∃ (p k : Nat) (cs : List Value), p = lo + k ∧ k ≤ d ∧ i = .int .i64 p ∧ v = .slice (some ⟨w.heap.size, 0, none⟩) k d ∧ wr.ownsRow w.heap.size 33 5 (.slice (some ⟨w.heap.size, 0, none⟩) k d) k cs ∧
      GCells cs ((zs.drop lo).take k) ∧ Below w.heap.size w wr) (fun _ i _ => lo + d - (intOf i).toNat)
  case atStart => exact ⟨lo, 0, [], rfl, Nat.zero_le _, rfl, rfl, hown, by simpa using GCells.nil, (Below.refl _ _).grown hgrow (Nat.le_refl _) (by simp)⟩
  case round =>
    obtain ⟨p, k, cs, hp, hk, rfl, rfl, ho, hg, hbel⟩ := hrel
    have HP : Hid _ := hp
    have hp1 : lo ≤ p := by omega
    have hp2 : p ≤ lo + d := by omega
    clear hp hown hgrow
    by_cases hlt : p < lo + d
    · obtain ⟨b, off, rfl, hc⟩ := IntRow.below H4.out hbel p (by have := HN.out; omega)
      have hpn : (p : Int) < (n : Int) := by omega
      have hp0 : (0 : Int) ≤ (p : Int) := by omega
      have hpz : p < zs.length := by have := HN.out; omega
      obtain ⟨z, hz⟩ : ∃ z, z = zs[p] := ⟨_, rfl⟩
      rw [← hz] at hc
      have HZ : Hid _ := hz
      clear hz
      have P0 : Hid (∀ W, Below wr.heap.size wr W → Calls Try.prog 11 #[.slice a0 l0 c0, .int .i64 p] W fun e w' => (∃ s, e = .returned (.string s)) ∧ w' = W) := fun W hW => pick_any a0 l0 c0 p W ((StrRow.below H0.out hbel).below hW)
      have P1 : Hid (∀ W, Below wr.heap.size wr W → Calls Try.prog 11 #[.slice a1 l1 c1, .int .i64 p] W fun e w' => (∃ s, e = .returned (.string s)) ∧ w' = W) := fun W hW => pick_any a1 l1 c1 p W ((StrRow.below H1.out hbel).below hW)
      have P2 : Hid (∀ W, Below wr.heap.size wr W → Calls Try.prog 11 #[.slice a2 l2 c2, .int .i64 p] W fun e w' => (∃ s, e = .returned (.string s)) ∧ w' = W) := fun W hW => pick_any a2 l2 c2 p W ((StrRow.below H2.out hbel).below hW)
      have P3 : Hid (∀ W, Below wr.heap.size wr W → Calls Try.prog 11 #[.slice a3 l3 c3, .int .i64 p] W fun e w' => (∃ s, e = .returned (.string s)) ∧ w' = W) := fun W hW => pick_any a3 l3 c3 p W ((StrRow.below H3.out hbel).below hW)
      go_wp2_with fail
      go_cut [17] from 23 to 48 (fun v wc => ∃ s0 s1 s2 s3, v = .pointer (some ⟨wr.heap.size, 0, none⟩) ∧ wc = (wr.alloc (.cells #[.string s0, .string s1, .string s2, .string s3, .int .i64 z] 33)).drew)
      case first =>
        go_region_held3 (fun w' => w'.cell? ⟨b, off + p, none⟩ = some (.int .i64 z)) (go_keep)
          (first
            | (go_at_call_of 11 (Value.slice a0 l0 c0); refine Calls.mono (P0.out _ ?_) ?_; (first | exact (Below.refl _ _).drew | exact ((Below.refl _ _).alloc (Nat.le_refl _) _).drew); rintro e w' ⟨⟨s, rfl⟩, rfl⟩)
            | (go_at_call_of 11 (Value.slice a1 l1 c1); refine Calls.mono (P1.out _ ?_) ?_; (first | exact (Below.refl _ _).drew | exact ((Below.refl _ _).alloc (Nat.le_refl _) _).drew); rintro e w' ⟨⟨s, rfl⟩, rfl⟩)
            | (go_at_call_of 11 (Value.slice a2 l2 c2); refine Calls.mono (P2.out _ ?_) ?_; (first | exact (Below.refl _ _).drew | exact ((Below.refl _ _).alloc (Nat.le_refl _) _).drew); rintro e w' ⟨⟨s, rfl⟩, rfl⟩)
            | (go_at_call_of 11 (Value.slice a3 l3 c3); refine Calls.mono (P3.out _ ?_) ?_; (first | exact (Below.refl _ _).drew | exact ((Below.refl _ _).alloc (Nat.le_refl _) _).drew); rintro e w' ⟨⟨s, rfl⟩, rfl⟩))
        all_goals
          go_wp2_with fail
          go_meet
          exact ⟨_, _, _, _, rfl, rfl⟩
      case rest =>
        obtain ⟨s0, s1, s2, s3, rfl, rfl⟩ := hcut
        go_wp2_with (first | (at_builtin; refine wpList_append_fits _ rfl (.tmp 45) (.tmp 47) 26 rfl w.heap.size 33 i0 5 Try.underlying26 hi0 hz1 w.heap.size k d cs rfl (by exact ((ho.alloc _).alloc _).drew) ⟨wr.heap.size + 1, 0, none⟩ 1 1 [.string s0, .string s1, .string s2, .string s3, .int .i64 z] rfl rfl ?c1 ?c2 ?c3 ?_))
        case c1 => exact fun j u hj => new_cells _ _ 33 _ j u (size_alloc _ _).symm hj
        case c2 => exact grant_ones s0 s1 s2 s3 z
        case c3 => have := HP.out; omega
        intro w2 hown2 hgrow2
        have HC : Hid (GCells (cs ++ [.string s0, .string s1, .string s2, .string s3, .int .i64 z]) ((zs.drop lo).take (k + 1))) := by
          rw [take_drop_succ zs lo k p z HP.out hpz HZ.out]
          exact hg.snoc s0 s1 s2 s3 z
        have hbel2 : Below w.heap.size w w2 :=
          (((hbel.alloc hbel.size _).alloc (by rw [size_alloc]; have := hbel.size; omega) _).drew).grown hgrow2 (by show w.heap.size ≤ ((wr.alloc _).alloc _).heap.size; rw [size_alloc, size_alloc]; have := hbel.size; omega) (by intro q e; cases e; exact Nat.le_refl _)
        clear hgrow2 hg ho hbel
        go_wp2_with fail
        go_roundw
        case rel => exact ⟨p + 1, k + 1, _, by have := HP.out; omega, by have := HP.out; omega, by go_num, rfl, hown2, HC.out, hbel2⟩
        case measure => simp [intOf]; omega
    · go_wp2_with fail
      go_ret
      have hkd : k = d := by have := HP.out; omega
      subst hkd
      have hl : ((zs.drop lo).take k).length = k := by have := HN.out; rw [List.length_take, List.length_drop]; omega
      refine ⟨rfl, hbel, ?_, GCells.row hg (by rw [hl]; exact ho)⟩
      rcases ho.2 with ⟨h', _⟩ | ⟨g', cap', cur, h', _, hgg, _⟩
      · simp at h'
      · simp only [Value.slice.injEq, Option.some.injEq, Addr.mk.injEq, and_true, true_and] at h'
        obtain ⟨rfl, rfl⟩ := h'
        exact (Array.getElem?_eq_some_iff.1 hgg).1
end Go.Proofs.Qxb6632223a
