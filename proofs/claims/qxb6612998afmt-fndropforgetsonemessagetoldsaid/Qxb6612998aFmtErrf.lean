import Derived.Test.Qxb6612998aFmtKit
import Derived.Stop.CallBack
import Derived.Stop.IfaceNil
import GoSem.ClaimData
namespace Go.Proofs.Qxb6612998aFmt
open Go.RowKit Go.Extern.Stop Go.Stop Go.Extern

@[go_sem] theorem call48 (args : Array Value) (w : World) : (callFunc 48 args).run Tryf.prog w = ((FmtStop.errorf #[9, 112] #[50] args).run Tryf.prog w).andThen fun v w' => .ok (.value v) w' :=
  run_callFunc_extern Tryf.func48 (by kernel_rfl) (by kernel_rfl) (by kernel_rfl) (by kernel_rfl) args w
@[go_sem] theorem guardF (name : String) (w : World) : (FmtStop.guard name).run Tryf.prog w = .ok () w := by kernel_rfl
def fmtS : ByteArray := ⟨#[103, 50, 58, 32, 97, 32, 109, 101, 115, 115, 97, 103, 101, 32, 105, 110, 32, 112, 97, 114, 116, 115, 32, 108, 111, 110, 103, 101, 114, 32, 116, 104, 97, 110, 32, 37, 100, 32, 98, 121, 116, 101, 115]⟩
@[go_sem] theorem fmt0 : FmtStop.printed? ⟨#[103, 50, 58, 32, 97, 32, 109, 101, 115, 115, 97, 103, 101, 32, 105, 110, 32, 112, 97, 114, 116, 115, 32, 108, 111, 110, 103, 101, 114, 32, 116, 104, 97, 110, 32, 37, 100, 32, 98, 121, 116, 101, 115]⟩ 1 = some [(0, 100, false)] := by kernel_rfl
@[go_sem] theorem fmt0r (w : World) : (FmtDoors.printed ⟨#[103, 50, 58, 32, 97, 32, 109, 101, 115, 115, 97, 103, 101, 32, 105, 110, 32, 112, 97, 114, 116, 115, 32, 108, 111, 110, 103, 101, 114, 32, 116, 104, 97, 110, 32, 37, 100, 32, 98, 121, 116, 101, 115]⟩ 1).run Tryf.prog w = .ok [(0, 100, false)] w := by kernel_rfl
def shape3 : List UInt8 := [5, 3, 0, 0, 0, 0, 0, 0, 0, 105, 110, 116]
@[go_sem] theorem op3_100 (name : String) (x : Int) (w : World) : (FmtStop.operand name false 100 false (.iface 3 (.int .i64 x))).run Tryf.prog w = .ok (shape3, Go.Extern.Stop.digits 8 (x % 2 ^ 64).toNat) w := by kernel_rfl
@[go_sem] theorem op3_100w (name : String) (x : Int) (w : World) : (FmtStop.operand name true 100 false (.iface 3 (.int .i64 x))).run Tryf.prog w = .ok (shape3, Go.Extern.Stop.digits 8 (x % 2 ^ 64).toNat) w := by kernel_rfl
@[go_sem] theorem strict3 (name : String) (x : Int) (w : World) : (FmtStop.strict name (.iface 3 (.int .i64 x))).run Tryf.prog w = .ok (shape3, Go.Extern.Stop.digits 8 (x % 2 ^ 64).toNat) w := by kernel_rfl

@[go_sem] theorem ptr124 (w : World) : (FmtStop.ptrTo "errors.errorString").run Tryf.prog w = .ok 124 w := by kernel_rfl
@[go_sem] theorem elem124 (w : World) : (elemOf 124).run Tryf.prog w = .ok 126 w := by kernel_rfl

set_option maxHeartbeats 1000000 in
theorem errorf_any (F : Interp) (n : Int) (blk : Nat) (w : World) (hF : F.answers w.tape) (hc0 : w.cell? ⟨blk, 0, none⟩ = some (.iface 3 (.int .i64 n))) :
    Calls Tryf.prog 36 #[.string ⟨#[103, 50, 58, 32, 97, 32, 109, 101, 115, 115, 97, 103, 101, 32, 105, 110, 32, 112, 97, 114, 116, 115, 32, 108, 111, 110, 103, 101, 114, 32, 116, 104, 97, 110, 32, 37, 100, 32, 98, 121, 116, 101, 115]⟩, .slice (some ⟨blk, 0, none⟩) 1 1] w fun e w' =>
      ∃ t v, e = .returned (.iface t v) ∧ Gr w w' := by
  have hF' : ∀ i name reading k range, w.tape i (.extern (word name reading k) range) = F name reading k := hF
  go_enter Tryf.func36, Tryf.ntmps36
  go_wp2
  go_ret
  exact ⟨_, _, rfl, ((Gr.refl w).alloc _).drew⟩
end Go.Proofs.Qxb6612998aFmt
