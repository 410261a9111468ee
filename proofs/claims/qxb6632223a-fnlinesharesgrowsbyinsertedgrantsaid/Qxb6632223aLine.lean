/-
  What the two laws share: the arguments as the walks hold them, a line in its box, the contracts in the form in which the laws meet them.
-/
import Derived.Test.Qxb6632223aGrants
import Derived.Test.Qxb6632223aBig
namespace Go.Proofs.Qxb6632223a
open Go.RowKit

/-- The five slices that came in, read in the world w. -/
def Ins (w : World) (a0 a1 a2 a3 a4 : Option Addr) (l0 l1 l2 l3 : Nat) (zs : List Int) : Prop :=
  StrRow w a0 l0 ∧ StrRow w a1 l1 ∧ StrRow w a2 l2 ∧ StrRow w a3 l3 ∧ IntRow w a4 zs
theorem Ins.below {w w' : World} {a0 a1 a2 a3 a4 : Option Addr} {l0 l1 l2 l3 : Nat} {zs : List Int} (h : Ins w a0 a1 a2 a3 a4 l0 l1 l2 l3 zs) (hb : Below w.heap.size w w') : Ins w' a0 a1 a2 a3 a4 l0 l1 l2 l3 zs :=
  ⟨h.1.below hb, h.2.1.below hb, h.2.2.1.below hb, h.2.2.2.1.below hb, h.2.2.2.2.below hb⟩

theorem grants_at {w : World} {a0 a1 a2 a3 a4 : Option Addr} {l0 l1 l2 l3 n c0 c1 c2 c3 c4 : Nat} {zs : List Int} (h : Ins w a0 a1 a2 a3 a4 l0 l1 l2 l3 zs) (hn : n = zs.length) (hmax : n ≤ 65536)
    (lo' hi' : Int) (lo d : Nat) (e1 : lo' = (lo : Int)) (e2 : hi' = ((lo + d : Nat) : Int)) (hd : lo + d ≤ n) :
    Calls Try.prog 7 #[.slice a0 l0 c0, .slice a1 l1 c1, .slice a2 l2 c2, .slice a3 l3 c3, .slice a4 n c4, .int .i64 lo', .int .i64 hi'] w fun e w' =>
      ∃ g, e = .returned (.slice (some ⟨g, 0, none⟩) d d) ∧ Below w.heap.size w w' ∧ GrantRow w' (some ⟨g, 0, none⟩) ((zs.drop lo).take d) := by
  subst e1 e2
  refine (grants_any a0 a1 a2 a3 a4 l0 l1 l2 l3 n c0 c1 c2 c3 c4 lo (lo + d) zs w h.1 h.2.1 h.2.2.1 h.2.2.2.1 h.2.2.2.2 hn (by omega) hd hmax).mono ?_
  rintro e w' ⟨he, hb, _, hr⟩
  rw [Nat.add_sub_cancel_left] at he hr
  exact ⟨_, he, hb, hr⟩

/-- A line in its box: name, role, and a slice of m grants whose shares are xs. -/
def LineAt (w : World) (b : Nat) (nm rl : ByteArray) (g m : Nat) (xs : List Int) : Prop :=
  (w.cell? ⟨b, 0, none⟩ = some (.string nm) ∧ w.cell? ⟨b, 1, none⟩ = some (.string rl) ∧ w.cell? ⟨b, 2, none⟩ = some (.slice (some ⟨g, 0, none⟩) m m)) ∧ GrantRow w (some ⟨g, 0, none⟩) xs ∧ m = xs.length ∧ m ≤ 9223372036854775807
theorem LineAt.below {w w' : World} {b : Nat} {nm rl : ByteArray} {g m : Nat} {xs : List Int} (h : LineAt w b nm rl g m xs) (hb : Below w.heap.size w w') : LineAt w' b nm rl g m xs :=
  ⟨⟨cell_kept hb (block_lt_of_cell h.1.1) h.1.1, cell_kept hb (block_lt_of_cell h.1.2.1) h.1.2.1, cell_kept hb (block_lt_of_cell h.1.2.2) h.1.2.2⟩, h.2.1.below hb, h.2.2⟩
theorem LineAt.shares {w : World} {b : Nat} {nm rl : ByteArray} {g m : Nat} {xs : List Int} (h : LineAt w b nm rl g m xs) :
    Calls Try.prog 8 #[.agg #[.string nm, .string rl, .slice (some ⟨g, 0, none⟩) m m]] w fun e w' => e = .returned (.int .i64 (wrap64 (tot xs))) ∧ Below w.heap.size w w' :=
  shares_any nm rl (some ⟨g, 0, none⟩) m m xs w h.2.1 h.2.2.1 h.2.2.2
/-- A new box that holds a line. -/
theorem LineAt.made {w : World} {nm rl : ByteArray} {g m : Nat} {xs : List Int} (h : GrantRow w (some ⟨g, 0, none⟩) xs) (hm : m = xs.length) (hl : m ≤ 9223372036854775807) :
    LineAt (w.alloc (.cells #[.string nm, .string rl, .slice (some ⟨g, 0, none⟩) m m] 29)) w.heap.size nm rl g m xs := by
  have hb := heap_alloc_new w (.cells #[.string nm, .string rl, .slice (some ⟨g, 0, none⟩) m m] 29)
  refine ⟨⟨?_, ?_, ?_⟩, h.below ((Below.refl _ _).alloc (Nat.le_refl _) _), hm, hl⟩
  · rw [cell_of_row _ _ 0 _ 29 (0, 0) hb]; rfl
  · rw [cell_of_row _ _ 1 _ 29 (0, 0) hb]; rfl
  · rw [cell_of_row _ _ 2 _ 29 (0, 0) hb]; rfl

theorem snd_of {C D : Prop} (h : C ∧ D) : D := h.2
/-- 'As V was, below its size', one step on. -/
theorem below_next {V W w' : World} {C : Prop} (h : C ∧ Below V.heap.size V W) (hb : Below W.heap.size W w') : Below V.heap.size V w' := h.2.trans (hb.mono h.2.size)

end Go.Proofs.Qxb6632223a
