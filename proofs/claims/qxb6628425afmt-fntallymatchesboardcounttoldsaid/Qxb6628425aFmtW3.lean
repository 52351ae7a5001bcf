import Derived.Test.Qxb6628425aFmtMem
import Derived.Stop.CallBack
import Derived.Stop.IfaceNil
import GoSem.ClaimData
namespace Go.Proofs.Qxb6628425aFmt
open Go.RowKit Go.Extern.Stop Go.Stop Go.Extern

theorem call15 (args : Array Value) (w : World) : (callFunc 15 args).run Tryf.prog w = ((FmtStop.errorf #[9, 40] #[33] args).run Tryf.prog w).andThen fun v w' => .ok (.value v) w' :=
  run_callFunc_extern Tryf.func15 (by kernel_rfl) (by kernel_rfl) (by kernel_rfl) (by kernel_rfl) args w
theorem guardF (name : String) (w : World) : (FmtStop.guard name).run Tryf.prog w = .ok () w := by kernel_rfl
theorem fmtA (w : World) : (FmtDoors.printed ⟨#[37, 113, 32, 105, 115, 32, 112, 114, 101, 115, 101, 110, 116, 32, 98, 117, 116, 32, 110, 111, 116, 32, 111, 110, 32, 116, 104, 101, 32, 98, 111, 97, 114, 100]⟩ 1).run Tryf.prog w = .ok [(0, 113, false)] w := by kernel_rfl
theorem fmtB (w : World) : (FmtDoors.printed ⟨#[37, 113, 32, 118, 111, 116, 101, 115, 32, 102, 111, 114, 32, 98, 117, 116, 32, 105, 115, 32, 110, 111, 116, 32, 112, 114, 101, 115, 101, 110, 116]⟩ 1).run Tryf.prog w = .ok [(0, 113, false)] w := by kernel_rfl
def shape9 : List UInt8 := [12, 6, 0, 0, 0, 0, 0, 0, 0, 115, 116, 114, 105, 110, 103]
theorem opq (name : String) (x : ByteArray) (w : World) : (FmtStop.operand name true 113 false (.iface 9 (.string x))).run Tryf.prog w = .ok (shape9, FmtStop.pack x.data.toList) w := by kernel_rfl
theorem ptr44 (w : World) : (FmtStop.ptrTo "errors.errorString").run Tryf.prog w = .ok 44 w := by kernel_rfl
theorem elem44 (w : World) : (elemOf 44).run Tryf.prog w = .ok 46 w := by kernel_rfl

/-- An error comes back, one that is not nil; nothing old has turned. -/
def ErrRet (w : World) (e : Ending) (w' : World) : Prop := ∃ a : Addr, e = .returned (.iface 44 (.pointer (some a))) ∧ Below w.heap.size w w'

theorem errorfA (b : Nat) (s : ByteArray) (w : World) (hc : w.cell? ⟨b, 0, none⟩ = some (.iface 9 (.string s))) :
    Calls Tryf.prog 12 #[.string ⟨#[37, 113, 32, 105, 115, 32, 112, 114, 101, 115, 101, 110, 116, 32, 98, 117, 116, 32, 110, 111, 116, 32, 111, 110, 32, 116, 104, 101, 32, 98, 111, 97, 114, 100]⟩, .slice (some ⟨b, 0, none⟩) 1 1] w (ErrRet w) := by
  have h1 := call15
  have h2 := guardF
  have h3 := fmtA
  have h4 := opq
  have h5 := ptr44
  have h6 := elem44
  go_enter Tryf.func12, Tryf.ntmps12
  go_wp2
  go_ret
  exact ⟨_, rfl, (below1 _ _).drew⟩
theorem errorfB (b : Nat) (s : ByteArray) (w : World) (hc : w.cell? ⟨b, 0, none⟩ = some (.iface 9 (.string s))) :
    Calls Tryf.prog 12 #[.string ⟨#[37, 113, 32, 118, 111, 116, 101, 115, 32, 102, 111, 114, 32, 98, 117, 116, 32, 105, 115, 32, 110, 111, 116, 32, 112, 114, 101, 115, 101, 110, 116]⟩, .slice (some ⟨b, 0, none⟩) 1 1] w (ErrRet w) := by
  have h1 := call15
  have h2 := guardF
  have h3 := fmtB
  have h4 := opq
  have h5 := ptr44
  have h6 := elem44
  go_enter Tryf.func12, Tryf.ntmps12
  go_wp2
  go_ret
  exact ⟨_, rfl, (below1 _ _).drew⟩
end Go.Proofs.Qxb6628425aFmt
