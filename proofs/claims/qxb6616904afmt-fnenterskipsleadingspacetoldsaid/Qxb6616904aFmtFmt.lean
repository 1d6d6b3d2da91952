/-
  THE CLOSED FACTS FOR A WALK OVER fmt.Errorf's stop ('fmt.errorf': function 35 of this dump), after the kit's generated texts of that kind, at this dump's numbers: 9 string, 3 int, 29 error, 58 the variadic slice, 62 '*errors.errorString', 64 'errors.errorString'.
-/
import Derived.Test.Qxb6616904aFmtRows
import Derived.Test.Qxb6616904aFmtPlain
import Derived.WalkKit
import Derived.WalkSpells
import Derived.WalkLawsBesides
import Derived.Stop.CallBack
import Derived.Stop.IfaceNil
import GoSem.ClaimData
namespace Go.Proofs.Qxb6616904aFmt
open Go.RowKit Go.Extern.Stop Go.Stop Go.Extern

theorem call35 (args : Array Value) (w : World) : (callFunc 35 args).run Tryf.prog w = ((FmtStop.errorf #[9, 58] #[29] args).run Tryf.prog w).andThen fun v w' => .ok (.value v) w' :=
  run_callFunc_extern Tryf.func35 (by kernel_rfl) (by kernel_rfl) (by kernel_rfl) (by kernel_rfl) args w
theorem fguard (name : String) (w : World) : (FmtStop.guard name).run Tryf.prog w = .ok () w := by kernel_rfl

theorem fmt1 : FmtStop.printed? ⟨#[110, 111, 116, 32, 118, 97, 108, 105, 100, 32, 74, 83, 79, 78, 32, 97, 116, 32, 98, 121, 116, 101, 32, 37, 100]⟩ 1 = some [(0, 100, false)] := by kernel_rfl
theorem fmt1r (w : World) : (FmtDoors.printed ⟨#[110, 111, 116, 32, 118, 97, 108, 105, 100, 32, 74, 83, 79, 78, 32, 97, 116, 32, 98, 121, 116, 101, 32, 37, 100]⟩ 1).run Tryf.prog w = .ok [(0, 100, false)] w := by kernel_rfl
def shape3 : List UInt8 := [5, 3, 0, 0, 0, 0, 0, 0, 0, 105, 110, 116]
theorem op3_100w (name : String) (x : Int) (w : World) : (FmtStop.operand name true 100 false (.iface 3 (.int .i64 x))).run Tryf.prog w = .ok (shape3, Go.Extern.Stop.digits 8 (x % 2 ^ 64).toNat) w := by kernel_rfl
theorem ptr62 (w : World) : (FmtStop.ptrTo "errors.errorString").run Tryf.prog w = .ok 62 w := by kernel_rfl
theorem elem62 (w : World) : (elemOf 62).run Tryf.prog w = .ok 64 w := by kernel_rfl
def fmtDeep : ByteArray := ⟨#[110, 111, 116, 32, 118, 97, 108, 105, 100, 32, 74, 83, 79, 78, 32, 97, 116, 32, 98, 121, 116, 101, 32, 37, 100, 58, 32, 97, 114, 114, 97, 121, 115, 32, 97, 110, 100, 32, 111, 98, 106, 101, 99, 116, 115, 32, 110, 101, 115, 116, 32, 109, 111, 114, 101, 32, 116, 104, 97, 110, 32, 37, 100, 32, 100, 101, 101, 112]⟩
theorem fmt2 : FmtStop.printed? fmtDeep 2 = some [(0, 100, false), (1, 100, false)] := by kernel_rfl
theorem fmt2r (w : World) : (FmtDoors.printed fmtDeep 2).run Tryf.prog w = .ok [(0, 100, false), (1, 100, false)] w := by kernel_rfl
attribute [local go_sem] call35 fguard fmt1 fmt1r fmt2 fmt2r op3_100w ptr62 elem62


set_option maxHeartbeats 400000 in
theorem errorf1 (F : Interp) (b : Nat) (n : Int) (w : World) (hF : F.answers w.tape) (hc : w.cell? ⟨b, 0, none⟩ = some (.iface 3 (.int .i64 n))) :
    Calls Tryf.prog 31 #[.string ⟨#[110, 111, 116, 32, 118, 97, 108, 105, 100, 32, 74, 83, 79, 78, 32, 97, 116, 32, 98, 121, 116, 101, 32, 37, 100]⟩, .slice (some ⟨b, 0, none⟩) 1 1] w fun e w' => ∃ a, e = .returned (.iface 62 (.pointer (some a))) ∧ Below w.heap.size w w' := by
  have hF' := answers_open hF
  go_enter Tryf.func31, Tryf.ntmps31
  go_wp2
  go_ret
  exact ⟨_, rfl, ((Below.refl _ _).alloc (Nat.le_refl _) _).drew⟩

set_option maxHeartbeats 400000 in
theorem errorf2 (F : Interp) (b : Nat) (n m : Int) (w : World) (hF : F.answers w.tape) (hc : w.cell? ⟨b, 0, none⟩ = some (.iface 3 (.int .i64 n))) (hc1 : w.cell? ⟨b, 1, none⟩ = some (.iface 3 (.int .i64 m))) :
    Calls Tryf.prog 31 #[.string fmtDeep, .slice (some ⟨b, 0, none⟩) 2 2] w fun e w' => ∃ a, e = .returned (.iface 62 (.pointer (some a))) ∧ Below w.heap.size w w' := by
  have hF' := answers_open hF
  go_enter Tryf.func31, Tryf.ntmps31
  go_wp2
  go_ret
  exact ⟨_, rfl, ((Below.refl _ _).alloc (Nat.le_refl _) _).drew⟩

end Go.Proofs.Qxb6616904aFmt
