/-
  fmt.errorf's door: the closed facts that a walk over it asks, and fmt.Errorf by its contract.
-/
import Derived.Test.Qxb6616153aFmtCards
import Derived.WalkKit
import Derived.WalkSpells
import Derived.Below
import Derived.Stop.CallBack
import Derived.Stop.IfaceNil
import Derived.Stop.FmtTextLaws
namespace Go.Proofs.Qxb6616153aFmt
open Go.RowKit Go.Extern.Stop Go.Stop Go.Extern

@[go_sem] theorem Tryf.call18 (args : Array Value) (w : World) : (callFunc 18 args).run Tryf.prog w = ((FmtStop.errorf #[9, 47] #[36] args).run Tryf.prog w).andThen fun v w' => .ok (.value v) w' :=
  run_callFunc_extern Tryf.func18 (by kernel_rfl) (by kernel_rfl) (by kernel_rfl) (by kernel_rfl) args w

@[go_sem] theorem Tryf.guard (name : String) (w : World) : (FmtStop.guard name).run Tryf.prog w = .ok () w := by kernel_rfl

@[go_sem] theorem Tryf.fmt0 : FmtStop.printed? ⟨#[116, 104, 101, 32, 110, 117, 109, 98, 101, 114, 32, 37, 100, 32, 119, 114, 105, 116, 116, 101, 110, 32, 105, 110, 32, 37, 100, 32, 98, 121, 116, 101, 115]⟩ 2 = some [(0, 100, false), (1, 100, false)] := by kernel_rfl
@[go_sem] theorem Tryf.fmt0r (w : World) : (FmtDoors.printed ⟨#[116, 104, 101, 32, 110, 117, 109, 98, 101, 114, 32, 37, 100, 32, 119, 114, 105, 116, 116, 101, 110, 32, 105, 110, 32, 37, 100, 32, 98, 121, 116, 101, 115]⟩ 2).run Tryf.prog w = .ok [(0, 100, false), (1, 100, false)] w := by kernel_rfl

def Tryf.shape27 : List UInt8 := [9, 6, 0, 0, 0, 0, 0, 0, 0, 117, 105, 110, 116, 54, 52]
def Tryf.shape3 : List UInt8 := [5, 3, 0, 0, 0, 0, 0, 0, 0, 105, 110, 116]
@[go_sem] theorem Tryf.op27_100 (name : String) (x : Int) (w : World) : (FmtStop.operand name false 100 false (.iface 27 (.int .u64 x))).run Tryf.prog w = .ok (Tryf.shape27, Go.Extern.Stop.digits 8 (x % 2 ^ 64).toNat) w := by kernel_rfl
@[go_sem] theorem Tryf.op27_100w (name : String) (x : Int) (w : World) : (FmtStop.operand name true 100 false (.iface 27 (.int .u64 x))).run Tryf.prog w = .ok (Tryf.shape27, Go.Extern.Stop.digits 8 (x % 2 ^ 64).toNat) w := by kernel_rfl
@[go_sem] theorem Tryf.op3_100 (name : String) (x : Int) (w : World) : (FmtStop.operand name false 100 false (.iface 3 (.int .i64 x))).run Tryf.prog w = .ok (Tryf.shape3, Go.Extern.Stop.digits 8 (x % 2 ^ 64).toNat) w := by kernel_rfl
@[go_sem] theorem Tryf.op3_100w (name : String) (x : Int) (w : World) : (FmtStop.operand name true 100 false (.iface 3 (.int .i64 x))).run Tryf.prog w = .ok (Tryf.shape3, Go.Extern.Stop.digits 8 (x % 2 ^ 64).toNat) w := by kernel_rfl
@[go_sem] theorem Tryf.ptr44 (w : World) : (FmtStop.ptrTo "errors.errorString").run Tryf.prog w = .ok 44 w := by kernel_rfl
@[go_sem] theorem Tryf.elem44 (w : World) : (elemOf 44).run Tryf.prog w = .ok 46 w := by kernel_rfl

def ErrEnd (e : Ending) (w w' : World) : Prop := ∃ b, e = .returned (.iface 44 (.pointer (some ⟨b, 0, none⟩))) ∧ Below w.heap.size w w'

set_option maxRecDepth 1000000 in
set_option maxHeartbeats 800000 in
theorem errorf_any (F : Interp) (v n : Int) (blk : Nat) (w : World) (hF : F.answers w.tape)
    (hc0 : w.cell? ⟨blk, 0, none⟩ = some (.iface 27 (.int .u64 v))) (hc1 : w.cell? ⟨blk, 1, none⟩ = some (.iface 3 (.int .i64 n))) :
    Calls Tryf.prog 17 #[.string ⟨#[116, 104, 101, 32, 110, 117, 109, 98, 101, 114, 32, 37, 100, 32, 119, 114, 105, 116, 116, 101, 110, 32, 105, 110, 32, 37, 100, 32, 98, 121, 116, 101, 115]⟩, .slice (some ⟨blk, 0, none⟩) 2 2] w fun e w' => ErrEnd e w w' := by
  have hF' := answers_open hF
  go_enter Tryf.func17, Tryf.ntmps17
  go_wp2
  go_ret
  exact ⟨_, rfl, ((Below.refl _ _).alloc (Nat.le_refl _) _).drew⟩

theorem errNew_any (s : ByteArray) (w : World) : Calls Tryf.prog 16 #[.string s] w fun e w' => ErrEnd e w w' := by
  go_enter Tryf.func16, Tryf.ntmps16
  go_wp2
  go_ret
  exact ⟨_, rfl, (Below.refl _ _).alloc (Nat.le_refl _) _⟩

end Go.Proofs.Qxb6616153aFmt
