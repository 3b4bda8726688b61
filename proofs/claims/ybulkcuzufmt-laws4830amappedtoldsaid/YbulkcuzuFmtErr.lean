/- fmt.Errorf (function 11) at the two formats of request.check: it answers an error that is not nil. Its text is whatever F says. -/
import Derived.Test.YbulkcuzuFmtPlain
import Derived.Stop.CallBack
import Derived.Stop.IfaceNil
import Derived.WalkSpells
import Derived.Deep.DeepCutAuto
import GoSem.ClaimData
namespace Go.Proofs
open Go.Extern.Stop Go.Stop Go.Extern
set_option linter.unusedVariables false

@[go_sem] theorem Ybaf.call13 (args : Array Value) (w : World) : (callFunc 13 args).run Ybaf.prog w = ((FmtStop.errorf #[9, 47] #[43] args).run Ybaf.prog w).andThen fun v w' => .ok (.value v) w' :=
  run_callFunc_extern Ybaf.func13 (by kernel_rfl) (by kernel_rfl) (by kernel_rfl) (by kernel_rfl) args w
@[go_sem] theorem Ybaf.guard (name : String) (w : World) : (FmtStop.guard name).run Ybaf.prog w = .ok () w := by kernel_rfl
@[go_sem] theorem Ybaf.fmt3r (w : World) : (FmtDoors.printed ⟨#[110, 111, 32, 114, 101, 113, 117, 101, 115, 116, 32, 99, 97, 110, 32, 98, 101, 32, 115, 101, 110, 116, 32, 97, 115, 32, 37, 113, 32, 37, 113, 32, 116, 111, 32, 37, 113]⟩ 3).run Ybaf.prog w = .ok [(0, 113, false), (1, 113, false), (2, 113, false)] w := by kernel_rfl
@[go_sem] theorem Ybaf.fmt2r (w : World) : (FmtDoors.printed ⟨#[110, 111, 32, 114, 101, 113, 117, 101, 115, 116, 32, 99, 97, 110, 32, 99, 97, 114, 114, 121, 32, 116, 104, 101, 32, 104, 101, 97, 100, 101, 114, 32, 37, 113, 58, 32, 37, 113]⟩ 2).run Ybaf.prog w = .ok [(0, 113, false), (1, 113, false)] w := by kernel_rfl
def Ybaf.shape9 : List UInt8 := [12, 6, 0, 0, 0, 0, 0, 0, 0, 115, 116, 114, 105, 110, 103]
@[go_sem] theorem Ybaf.op9_113w (name : String) (x : ByteArray) (w : World) : (FmtStop.operand name true 113 false (.iface 9 (.string x))).run Ybaf.prog w = .ok (Ybaf.shape9, FmtStop.pack x.data.toList) w := by kernel_rfl
@[go_sem] theorem Ybaf.ptr50 (w : World) : (FmtStop.ptrTo "errors.errorString").run Ybaf.prog w = .ok 50 w := by kernel_rfl
@[go_sem] theorem Ybaf.elem50 (w : World) : (elemOf 50).run Ybaf.prog w = .ok 52 w := by kernel_rfl

namespace YbulkcuzuFmt
open Go.RowKit


/-- What Errorf's call leaves. -/
def Bad (w : World) (e : Ending) (w' : World) : Prop := (∃ a, e = .returned (.iface 50 (.pointer (some a)))) ∧ Below w.heap.size w w'

set_option maxHeartbeats 1000000 in
theorem err3 (F : Interp) (x y z : ByteArray) (b : Nat) (w : World) (hF : F.answers w.tape)
    (h0 : w.cell? ⟨b, 0, none⟩ = some (.iface 9 (.string x))) (h1 : w.cell? ⟨b, 1, none⟩ = some (.iface 9 (.string y))) (h2 : w.cell? ⟨b, 2, none⟩ = some (.iface 9 (.string z))) :
    Calls Ybaf.prog 11 #[.string ⟨#[110, 111, 32, 114, 101, 113, 117, 101, 115, 116, 32, 99, 97, 110, 32, 98, 101, 32, 115, 101, 110, 116, 32, 97, 115, 32, 37, 113, 32, 37, 113, 32, 116, 111, 32, 37, 113]⟩, .slice (some ⟨b, 0, none⟩) 3 3] w (Bad w) := by
  have hF' := answers_open hF
  go_enter Ybaf.func11, Ybaf.ntmps11
  go_wp2
  go_ret
  exact ⟨⟨_, rfl⟩, ((Below.refl _ _).alloc (Nat.le_refl _) _).drew⟩

set_option maxHeartbeats 1000000 in
theorem err2 (F : Interp) (x y : ByteArray) (b : Nat) (w : World) (hF : F.answers w.tape)
    (h0 : w.cell? ⟨b, 0, none⟩ = some (.iface 9 (.string x))) (h1 : w.cell? ⟨b, 1, none⟩ = some (.iface 9 (.string y))) :
    Calls Ybaf.prog 11 #[.string ⟨#[110, 111, 32, 114, 101, 113, 117, 101, 115, 116, 32, 99, 97, 110, 32, 99, 97, 114, 114, 121, 32, 116, 104, 101, 32, 104, 101, 97, 100, 101, 114, 32, 37, 113, 58, 32, 37, 113]⟩, .slice (some ⟨b, 0, none⟩) 2 2] w (Bad w) := by
  have hF' := answers_open hF
  go_enter Ybaf.func11, Ybaf.ntmps11
  go_wp2
  go_ret
  exact ⟨⟨_, rfl⟩, ((Below.refl _ _).alloc (Nat.le_refl _) _).drew⟩
end YbulkcuzuFmt
end Go.Proofs
