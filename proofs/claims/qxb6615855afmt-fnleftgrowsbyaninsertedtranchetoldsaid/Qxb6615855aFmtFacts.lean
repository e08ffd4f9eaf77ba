/-
  THE CLOSED FACTS FOR A WALK OVER fmt.errorf AT THIS PROGRAM's ONE FORMAT (after the pattern of the kit's CheckFmt.lean, at this dump's numbers).
-/
import Derived.Test.Qxb6615855aFmtProg
import Derived.Stop.CallBack
import Derived.Stop.IfaceNil
import Derived.WalkKit
import Derived.WalkSpells
import Derived.WalkLawsBesides
import Derived.Deep.OwnRows
import Derived.Deep.LoopGhost
import Derived.Deep.QuietTactic
import Derived.BigQuiet
import GoSem.ClaimData
namespace Go.Proofs
open Go.Extern.Stop Go.Stop Go.Extern Go.RowKit

@[go_sem] theorem Tryf.call25 (args : Array Value) (w : World) : (callFunc 25 args).run Tryf.prog w = ((FmtStop.errorf #[9, 57] #[32] args).run Tryf.prog w).andThen fun v w' => .ok (.value v) w' :=
  run_callFunc_extern Tryf.func25 (by kernel_rfl) (by kernel_rfl) (by kernel_rfl) (by kernel_rfl) args w

@[go_sem] theorem Tryf.guard (name : String) (w : World) : (FmtStop.guard name).run Tryf.prog w = .ok () w := by kernel_rfl

/-- The format's bytes. -/
abbrev fmtB : ByteArray := ⟨#[104, 111, 108, 100, 101, 114, 32, 37, 115, 58, 32, 116, 104, 101, 32, 115, 104, 97, 114, 101, 115, 32, 111, 102, 32, 116, 104, 101, 32, 116, 114, 97, 110, 99, 104, 101, 115, 32, 108, 101, 102, 116, 32, 99, 111, 109, 101, 32, 116, 111, 32, 109, 111, 114, 101, 32, 116, 104, 97, 110, 32, 99, 97, 110, 32, 98, 101, 32, 99, 111, 117, 110, 116, 101, 100]⟩
theorem Tryf.fmt0 : FmtStop.printed? fmtB 1 = some [(0, 115, false)] := by kernel_rfl
theorem Tryf.fmt0r (w : World) : (FmtDoors.printed fmtB 1).run Tryf.prog w = .ok [(0, 115, false)] w := by kernel_rfl

theorem Tryf.name9 : Tryf.prog.typeName? 3 9 = some "string" := by kernel_rfl
def Tryf.shape9 : List UInt8 := [12, 6, 0, 0, 0, 0, 0, 0, 0, 115, 116, 114, 105, 110, 103]
@[go_sem] theorem Tryf.op9_115w (name : String) (x : ByteArray) (w : World) : (FmtStop.operand name true 115 false (.iface 9 (.string x))).run Tryf.prog w = .ok (Tryf.shape9, FmtStop.pack x.data.toList) w := by kernel_rfl
@[go_sem] theorem Tryf.ptr60 (w : World) : (FmtStop.ptrTo "errors.errorString").run Tryf.prog w = .ok 60 w := by kernel_rfl
@[go_sem] theorem Tryf.elem60 (w : World) : (elemOf 60).run Tryf.prog w = .ok 62 w := by kernel_rfl
@[go_sem] theorem Tryf.isError60' (w : World) : (FmtDoors.textMethod 60 "Error").run Tryf.prog w = .ok true w := by kernel_rfl

namespace Qxb6615855aFmt
/-- fmt.Errorf at this format: a new error; nothing that was there has turned. -/
theorem errorf_any (F : Interp) (nm : ByteArray) (b : Nat) (w : World) (hF : F.answers w.tape) (hc : w.cell? ⟨b, 0, none⟩ = some (.iface 9 (.string nm))) :
    Calls Tryf.prog 24 #[.string fmtB, .slice (some ⟨b, 0, none⟩) 1 1] w fun e w' => e = .returned (.iface 60 (.pointer (some ⟨w.heap.size, 0, none⟩))) ∧ Below w.heap.size w w' := by
  have hF' := hF
  unfold Interp.answers at hF'
  have h0 := Tryf.fmt0
  have h0r := Tryf.fmt0r
  go_enter Tryf.func24, Tryf.ntmps24
  go_wp2
  go_ret
  exact ⟨rfl, ((Below.refl _ _).alloc (Nat.le_refl _) _).drew⟩
end Qxb6615855aFmt
end Go.Proofs
