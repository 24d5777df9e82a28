/-
  SEAT b6626337aF: THE CLOSED FACTS for a walk over fmt.errorf's stop at this dump's numbers (after the guide's CheckFmt.lean), and fmt.Errorf by its contract.
-/
import Derived.Test.Qxb6626337aFmtCards
import Derived.WalkKit
import Derived.WalkSpells
import Derived.WalkLawsBesides
import Derived.Stop.CallBack
import Derived.Stop.IfaceNil
import GoSem.ClaimData
namespace Go.Proofs.Qxb6626337aFmt
open Go.RowKit Go.Extern.Stop Go.Stop Go.Extern

theorem call8 (args : Array Value) (w : World) : (callFunc 8 args).run Tryf.prog w = ((FmtStop.errorf #[9, 31] #[25] args).run Tryf.prog w).andThen fun v w' => .ok (.value v) w' :=
  run_callFunc_extern Tryf.func8 (by kernel_rfl) (by kernel_rfl) (by kernel_rfl) (by kernel_rfl) args w
theorem fguard (name : String) (w : World) : (FmtStop.guard name).run Tryf.prog w = .ok () w := by kernel_rfl
def shape3 : List UInt8 := [5, 3, 0, 0, 0, 0, 0, 0, 0, 105, 110, 116]
theorem op3 (name : String) (x : Int) (w : World) : (FmtStop.operand name true 100 false (.iface 3 (.int .i64 x))).run Tryf.prog w = .ok (shape3, Go.Extern.Stop.digits 8 (x % 2 ^ 64).toNat) w := by kernel_rfl
theorem ptr34 (w : World) : (FmtStop.ptrTo "errors.errorString").run Tryf.prog w = .ok 34 w := by kernel_rfl
theorem elem34 (w : World) : (elemOf 34).run Tryf.prog w = .ok 36 w := by kernel_rfl

attribute [local go_sem] call8 fguard op3 ptr34 elem34

theorem errorf2 (F : Interp) (fm : ByteArray) (hfm : ∀ w, (FmtDoors.printed fm 2).run Tryf.prog w = .ok [(0, 100, false), (1, 100, false)] w) (x y : Int) (b : Nat) (w : World) (hF : F.answers w.tape)
    (c0 : w.cell? ⟨b, 0, none⟩ = some (.iface 3 (.int .i64 x))) (c1 : w.cell? ⟨b, 1, none⟩ = some (.iface 3 (.int .i64 y))) :
    Calls Tryf.prog 7 #[.string fm, .slice (some ⟨b, 0, none⟩) 2 2] w fun e w' => ∃ T, e = .returned (.iface 34 (.pointer (some ⟨w.heap.size, 0, none⟩))) ∧ w' = (w.alloc (.cells #[.string T] 36)).drew := by
  have hF' := answers_open hF
  go_enter Tryf.func7, Tryf.ntmps7
  go_wp2
  go_ret
  exact ⟨_, rfl, rfl⟩

theorem errorf3 (F : Interp) (fm : ByteArray) (hfm : ∀ w, (FmtDoors.printed fm 3).run Tryf.prog w = .ok [(0, 100, false), (1, 100, false), (2, 100, false)] w) (x y z : Int) (b : Nat) (w : World) (hF : F.answers w.tape)
    (c0 : w.cell? ⟨b, 0, none⟩ = some (.iface 3 (.int .i64 x))) (c1 : w.cell? ⟨b, 1, none⟩ = some (.iface 3 (.int .i64 y))) (c2 : w.cell? ⟨b, 2, none⟩ = some (.iface 3 (.int .i64 z))) :
    Calls Tryf.prog 7 #[.string fm, .slice (some ⟨b, 0, none⟩) 3 3] w fun e w' => ∃ T, e = .returned (.iface 34 (.pointer (some ⟨w.heap.size, 0, none⟩))) ∧ w' = (w.alloc (.cells #[.string T] 36)).drew := by
  have hF' := answers_open hF
  go_enter Tryf.func7, Tryf.ntmps7
  go_wp2
  go_ret
  exact ⟨_, rfl, rfl⟩

end Go.Proofs.Qxb6626337aFmt
