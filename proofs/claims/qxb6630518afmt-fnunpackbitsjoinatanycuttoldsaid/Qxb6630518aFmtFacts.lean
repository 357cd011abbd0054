/-
  THE CLOSED FACTS FOR A WALK OVER fmt.errorf's STOP (after the guide's CheckFmt: its numbers turned to this program), and the contracts of fmt.Errorf (8) and errors.New (9) as far as the law looks: an error that is not nil.
-/
import Derived.Test.Qxb6630518aFmtProg
import Derived.Stop.CallBack
import Derived.Stop.IfaceNil
import GoSem.ClaimData
import Derived.WalkKit
import Derived.WalkSpells
namespace Go.Proofs.Qxb6630518aFmt
open Go.RowKit Go.Extern.Stop Go.Stop Go.Extern

theorem call10 (args : Array Value) (w : World) : (callFunc 10 args).run Tryf.prog w = ((FmtStop.errorf #[9, 32] #[26] args).run Tryf.prog w).andThen fun v w' => .ok (.value v) w' :=
  run_callFunc_extern Tryf.func10 (by kernel_rfl) (by kernel_rfl) (by kernel_rfl) (by kernel_rfl) args w
theorem guard (name : String) (w : World) : (FmtStop.guard name).run Tryf.prog w = .ok () w := by kernel_rfl
theorem fmt0 : FmtStop.printed? ⟨#[105, 115, 32, 37, 100, 32, 98, 121, 116, 101, 115, 32, 102, 111, 114, 32, 37, 100, 32, 112, 105, 101, 99, 101, 115]⟩ 2 = some [(0, 100, false), (1, 100, false)] := by kernel_rfl
theorem fmt0r (w : World) : (FmtDoors.printed ⟨#[105, 115, 32, 37, 100, 32, 98, 121, 116, 101, 115, 32, 102, 111, 114, 32, 37, 100, 32, 112, 105, 101, 99, 101, 115]⟩ 2).run Tryf.prog w = .ok [(0, 100, false), (1, 100, false)] w := by kernel_rfl
def shape3 : List UInt8 := [5, 3, 0, 0, 0, 0, 0, 0, 0, 105, 110, 116]
theorem op3_100 (name : String) (x : Int) (w : World) : (FmtStop.operand name false 100 false (.iface 3 (.int .i64 x))).run Tryf.prog w = .ok (shape3, Go.Extern.Stop.digits 8 (x % 2 ^ 64).toNat) w := by kernel_rfl
theorem op3_100w (name : String) (x : Int) (w : World) : (FmtStop.operand name true 100 false (.iface 3 (.int .i64 x))).run Tryf.prog w = .ok (shape3, Go.Extern.Stop.digits 8 (x % 2 ^ 64).toNat) w := by kernel_rfl
theorem ptr34 (w : World) : (FmtStop.ptrTo "errors.errorString").run Tryf.prog w = .ok 34 w := by kernel_rfl
theorem elem34 (w : World) : (elemOf 34).run Tryf.prog w = .ok 36 w := by kernel_rfl
theorem isError34 (w : World) : (FmtDoors.textMethod 34 "Error").run Tryf.prog w = .ok true w := by kernel_rfl
theorem ptr33 (w : World) : (FmtStop.ptrTo "fmt.wrapError").run Tryf.prog w = .ok 33 w := by kernel_rfl
theorem isError33 (w : World) : (FmtDoors.textMethod 33 "Error").run Tryf.prog w = .ok true w := by kernel_rfl

attribute [local go_sem] call10 guard fmt0 fmt0r op3_100 op3_100w ptr34 elem34 isError34 ptr33 isError33

/-- fmt.Errorf at the one format and operands of this program: some error, not nil; nothing that was there has turned. -/
theorem errorf_any (F : Interp) (x y : Int) (g : Nat) (w : World) (hF : F.answers w.tape) (h0 : w.cell? ⟨g, 0, none⟩ = some (.iface 3 (.int .i64 x))) (h1 : w.cell? ⟨g, 1, none⟩ = some (.iface 3 (.int .i64 y))) :
    Calls Tryf.prog 8 #[.string ⟨#[105, 115, 32, 37, 100, 32, 98, 121, 116, 101, 115, 32, 102, 111, 114, 32, 37, 100, 32, 112, 105, 101, 99, 101, 115]⟩, .slice (some ⟨g, 0, none⟩) 2 2] w fun e w' =>
      (∃ a, e = .returned (.iface 34 (.pointer (some a)))) ∧ Below w.heap.size w w' := by
  have hF' := answers_open hF
  go_enter Tryf.func8, Tryf.ntmps8
  go_wp2
  go_ret
  exact ⟨⟨_, rfl⟩, ((Below.refl _ _).alloc (Nat.le_refl _) _).drew⟩

theorem new_any (s : ByteArray) (w : World) :
    Calls Tryf.prog 9 #[.string s] w fun e w' => (∃ a, e = .returned (.iface 34 (.pointer (some a)))) ∧ Below w.heap.size w w' := by
  go_enter Tryf.func9, Tryf.ntmps9
  go_wp2
  go_ret
  exact ⟨⟨_, rfl⟩, (Below.refl _ _).alloc (Nat.le_refl _) _⟩
end Go.Proofs.Qxb6630518aFmt
