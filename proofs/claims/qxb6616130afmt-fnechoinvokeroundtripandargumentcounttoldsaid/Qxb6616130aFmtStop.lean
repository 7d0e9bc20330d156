/-
  fmt.errorf's door: the closed facts that a walk over it asks, and argCountError by its contract.
-/
import Derived.Test.Qxb6616130aFmtCards
import Derived.WalkKit
import Derived.WalkSpells
import Derived.Below
import Derived.Stop.CallBack
import Derived.Stop.IfaceNil
import Derived.Stop.FmtTextLaws
namespace Go.Proofs.Qxb6616130aFmt
open Go.RowKit Go.Extern.Stop Go.Stop Go.Extern

@[go_sem] theorem Tryf.call24 (args : Array Value) (w : World) : (callFunc 24 args).run Tryf.prog w = ((FmtStop.errorf #[9, 53] #[30] args).run Tryf.prog w).andThen fun v w' => .ok (.value v) w' :=
  run_callFunc_extern Tryf.func24 (by kernel_rfl) (by kernel_rfl) (by kernel_rfl) (by kernel_rfl) args w

@[go_sem] theorem Tryf.guard (name : String) (w : World) : (FmtStop.guard name).run Tryf.prog w = .ok () w := by kernel_rfl

@[go_sem] theorem Tryf.fmt0 : FmtStop.printed? ⟨#[109, 101, 116, 104, 111, 100, 32, 37, 115, 32, 116, 97, 107, 101, 115, 32, 37, 115, 37, 100, 32, 97, 114, 103, 117, 109, 101, 110, 116, 37, 115, 44, 32, 110, 111, 116, 32, 37, 100]⟩ 5 = some [(0, 115, false), (1, 115, false), (2, 100, false), (3, 115, false), (4, 100, false)] := by kernel_rfl
@[go_sem] theorem Tryf.fmt0r (w : World) : (FmtDoors.printed ⟨#[109, 101, 116, 104, 111, 100, 32, 37, 115, 32, 116, 97, 107, 101, 115, 32, 37, 115, 37, 100, 32, 97, 114, 103, 117, 109, 101, 110, 116, 37, 115, 44, 32, 110, 111, 116, 32, 37, 100]⟩ 5).run Tryf.prog w = .ok [(0, 115, false), (1, 115, false), (2, 100, false), (3, 115, false), (4, 100, false)] w := by kernel_rfl

def Tryf.shape9 : List UInt8 := [12, 6, 0, 0, 0, 0, 0, 0, 0, 115, 116, 114, 105, 110, 103]
def Tryf.shape3 : List UInt8 := [5, 3, 0, 0, 0, 0, 0, 0, 0, 105, 110, 116]
@[go_sem] theorem Tryf.op9_115 (name : String) (x : ByteArray) (w : World) : (FmtStop.operand name false 115 false (.iface 9 (.string x))).run Tryf.prog w = .ok (Tryf.shape9, FmtStop.pack x.data.toList) w := by kernel_rfl
@[go_sem] theorem Tryf.op9_115w (name : String) (x : ByteArray) (w : World) : (FmtStop.operand name true 115 false (.iface 9 (.string x))).run Tryf.prog w = .ok (Tryf.shape9, FmtStop.pack x.data.toList) w := by kernel_rfl
@[go_sem] theorem Tryf.op3_100 (name : String) (x : Int) (w : World) : (FmtStop.operand name false 100 false (.iface 3 (.int .i64 x))).run Tryf.prog w = .ok (Tryf.shape3, Go.Extern.Stop.digits 8 (x % 2 ^ 64).toNat) w := by kernel_rfl
@[go_sem] theorem Tryf.op3_100w (name : String) (x : Int) (w : World) : (FmtStop.operand name true 100 false (.iface 3 (.int .i64 x))).run Tryf.prog w = .ok (Tryf.shape3, Go.Extern.Stop.digits 8 (x % 2 ^ 64).toNat) w := by kernel_rfl
@[go_sem] theorem Tryf.ptr55 (w : World) : (FmtStop.ptrTo "errors.errorString").run Tryf.prog w = .ok 55 w := by kernel_rfl
@[go_sem] theorem Tryf.elem55 (w : World) : (elemOf 55).run Tryf.prog w = .ok 57 w := by kernel_rfl

def ErrEnd (e : Ending) (w w' : World) : Prop := ∃ b, e = .returned (.iface 55 (.pointer (some ⟨b, 0, none⟩))) ∧ Below w.heap.size w w'

set_option maxRecDepth 1000000 in
set_option maxHeartbeats 800000 in
theorem errorf_args (F : Interp) (s0 s1 s3 : ByteArray) (i2 i4 : Int) (blk : Nat) (w : World) (hF : F.answers w.tape)
    (hc0 : w.cell? ⟨blk, 0, none⟩ = some (.iface 9 (.string s0))) (hc1 : w.cell? ⟨blk, 1, none⟩ = some (.iface 9 (.string s1))) (hc2 : w.cell? ⟨blk, 2, none⟩ = some (.iface 3 (.int .i64 i2)))
    (hc3 : w.cell? ⟨blk, 3, none⟩ = some (.iface 9 (.string s3))) (hc4 : w.cell? ⟨blk, 4, none⟩ = some (.iface 3 (.int .i64 i4))) :
    Calls Tryf.prog 22 #[.string ⟨#[109, 101, 116, 104, 111, 100, 32, 37, 115, 32, 116, 97, 107, 101, 115, 32, 37, 115, 37, 100, 32, 97, 114, 103, 117, 109, 101, 110, 116, 37, 115, 44, 32, 110, 111, 116, 32, 37, 100]⟩, .slice (some ⟨blk, 0, none⟩) 5 5] w fun e w' => ErrEnd e w w' := by
  have hF' := answers_open hF
  go_enter Tryf.func22, Tryf.ntmps22
  go_wp2
  go_ret
  exact ⟨_, rfl, ((Below.refl _ _).alloc (Nat.le_refl _) _).drew⟩

set_option maxRecDepth 1000000 in
set_option maxHeartbeats 800000 in
theorem argc_any (F : Interp) (s0 s1 : ByteArray) (k : Int) (w : World) (hF : F.answers w.tape) :
    Calls Tryf.prog 23 #[.string s0, .string s1, .int .i64 1, .int .i64 k] w fun e w' => ErrEnd e w w' := by
  go_enter Tryf.func23, Tryf.ntmps23
  go_wp2_with (go_at_call 22; refine (errorf_args F s0 s1 ⟨#[]⟩ 1 k w.heap.size _ (by simpa using hF) (by go_simp) (by go_simp) (by go_simp) (by go_simp) (by go_simp)).mono ?_; rintro e w' ⟨b, rfl, hb⟩)
  go_ret
  exact ⟨b, rfl, ((Below.refl _ _).alloc (Nat.le_refl _) _).trans (hb.mono (by simp))⟩

set_option maxRecDepth 1000000 in
set_option maxHeartbeats 800000 in
theorem check_bad (F : Interp) (s0 : ByteArray) (a : Option Addr) (n cap : Nat) (w : World) (hF : F.answers w.tape) (hn : n ≠ 1) :
    Calls Tryf.prog 21 #[.string s0, .slice a n cap, .int .i64 1] w fun e w' => ErrEnd e w w' := by
  have h1 : ¬ ((n : Int) = 1) := by omega
  go_enter Tryf.func21, Tryf.ntmps21
  go_wp2_with (go_at_call 23; refine (argc_any F s0 _ (n : Int) _ (by simpa using hF)).mono ?_; rintro e w' ⟨b, rfl, hb⟩)
  go_ret
  exact ⟨b, rfl, hb⟩

theorem check_one (s0 : ByteArray) (a : Option Addr) (cap : Nat) (w : World) :
    Calls Tryf.prog 21 #[.string s0, .slice a 1 cap, .int .i64 1] w fun e w' => e = .returned .nilIface ∧ w = w' := by
  go_enter Tryf.func21, Tryf.ntmps21
  go_wp2
  go_ret
  exact ⟨rfl, rfl⟩

end Go.Proofs.Qxb6616130aFmt
