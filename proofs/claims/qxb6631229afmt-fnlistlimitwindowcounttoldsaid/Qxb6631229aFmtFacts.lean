/-
  Closed facts for a walk over fmt.errorf's stop in this program, and the contract of CheckListLimit (function 5).
-/
import Derived.Test.Qxb6631229aFmtRows
import Derived.Stop.CallBack
import Derived.Stop.IfaceNil
import Derived.WalkKit
import Derived.WalkSpells
import Derived.BigCall
namespace Go.Proofs.Qxb6631229aFmt
open Go.RowKit Go.Extern.Stop Go.Stop Go.Extern

theorem call7 (args : Array Value) (w : World) : (callFunc 7 args).run Tryf.prog w = ((FmtStop.errorf #[9, 28] #[23] args).run Tryf.prog w).andThen fun v w' => .ok (.value v) w' :=
  run_callFunc_extern Tryf.func7 (by kernel_rfl) (by kernel_rfl) (by kernel_rfl) (by kernel_rfl) args w
theorem fguard (name : String) (w : World) : (FmtStop.guard name).run Tryf.prog w = .ok () w := by kernel_rfl
theorem fmt0 : FmtStop.printed? ⟨#[108, 105, 109, 105, 116, 32, 37, 100, 32, 105, 115, 32, 111, 117, 116, 32, 111, 102, 32, 114, 97, 110, 103, 101, 58, 32, 119, 97, 110, 116, 32, 49, 32, 116, 111, 32, 37, 100]⟩ 2 = some [(0, 100, false), (1, 100, false)] := by kernel_rfl
theorem fmt0r (w : World) : (FmtDoors.printed ⟨#[108, 105, 109, 105, 116, 32, 37, 100, 32, 105, 115, 32, 111, 117, 116, 32, 111, 102, 32, 114, 97, 110, 103, 101, 58, 32, 119, 97, 110, 116, 32, 49, 32, 116, 111, 32, 37, 100]⟩ 2).run Tryf.prog w = .ok [(0, 100, false), (1, 100, false)] w := by kernel_rfl
def shape3 : List UInt8 := [5, 3, 0, 0, 0, 0, 0, 0, 0, 105, 110, 116]
theorem op3_100 (name : String) (x : Int) (w : World) : (FmtStop.operand name false 100 false (.iface 3 (.int .i64 x))).run Tryf.prog w = .ok (shape3, Go.Extern.Stop.digits 8 (x % 2 ^ 64).toNat) w := by kernel_rfl
theorem op3_100w (name : String) (x : Int) (w : World) : (FmtStop.operand name true 100 false (.iface 3 (.int .i64 x))).run Tryf.prog w = .ok (shape3, Go.Extern.Stop.digits 8 (x % 2 ^ 64).toNat) w := by kernel_rfl
theorem ptr31 (w : World) : (FmtStop.ptrTo "errors.errorString").run Tryf.prog w = .ok 31 w := by kernel_rfl
theorem elem31 (w : World) : (elemOf 31).run Tryf.prog w = .ok 33 w := by kernel_rfl
theorem isError31 (w : World) : (FmtDoors.textMethod 31 "Error").run Tryf.prog w = .ok true w := by kernel_rfl
attribute [local go_sem] call7 fguard fmt0 fmt0r op3_100 op3_100w ptr31 elem31 isError31

/-- What such a call leaves of the world: new blocks, and the same tape. -/
def Kept (w w' : World) : Prop := Grown w w' ∧ w'.tape = w.tape
theorem Kept.refl (w : World) : Kept w w := ⟨Grown.refl _, rfl⟩
theorem Kept.trans {a b c : World} (h : Kept a b) (k : Kept b c) : Kept a c :=
  ⟨⟨World.keptBut_trans h.1.1 k.1.1, fun x => (k.1.2.1 x).trans (h.1.2.1 x), Nat.le_trans h.1.2.2 k.1.2.2⟩, k.2.trans h.2⟩
theorem Kept.answers {F : Interp} {a b : World} (h : Kept a b) (hF : F.answers a.tape) : F.answers b.tape := by rw [h.2]; exact hF

/-- Out of range: an error that is not nil; new blocks alone. -/
theorem limit_bad (F : Interp) (n : Int) (w : World) (hF : F.answers w.tape) (hn : n < 1 ∨ 1000 < n) :
    Calls Tryf.prog 5 #[.int .i64 n] w fun e w' => (∃ a, e = .returned (.iface 31 (.pointer (some a)))) ∧ Kept w w' := by
  have hF' := answers_open hF
  rcases hn with hn | hn
  · go_enter Tryf.func5, Tryf.ntmps5
    go_wp2
    go_ret
    exact ⟨⟨_, rfl⟩, by repeat (first | exact Grown.refl _ | apply Grown.drew | apply Grown.alloc), rfl⟩
  · have hn' : ¬ n < 1 := by omega
    go_enter Tryf.func5, Tryf.ntmps5
    go_wp2
    go_ret
    exact ⟨⟨_, rfl⟩, by repeat (first | exact Grown.refl _ | apply Grown.drew | apply Grown.alloc), rfl⟩

/-- In range: nil, and nothing turns. -/
theorem limit_ok (n : Int) (w : World) (h1 : 1 ≤ n) (h2 : n ≤ 1000) :
    Calls Tryf.prog 5 #[.int .i64 n] w fun e w' => e = .returned .nilIface ∧ w' = w := by
  go_enter Tryf.func5, Tryf.ntmps5
  go_wp2
  go_ret
  exact ⟨rfl, rfl⟩

end Go.Proofs.Qxb6631229aFmt
