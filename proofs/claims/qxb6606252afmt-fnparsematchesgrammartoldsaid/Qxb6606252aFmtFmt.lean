/-
  THE CLOSED FACTS for a walk over fmt's two stopped fronts at this dump (fmt.errorf: function 30; fmt.Sprintf: function 43), and the contracts of fmt.Errorf and fmt.Sprintf that this seat's roads use: whatever the text is, the error is not nil and the string is a string.
-/
import Derived.Test.Qxb6606252aFmtProg
import Derived.Stop.CallBack
import Derived.Stop.IfaceNil
import GoSem.ClaimData
import Derived.WalkKit
import Derived.WalkSpells
import Derived.KernelRfl
import Derived.Handy
namespace Go.Proofs.Qxb6606252aFmt
open Go.RowKit Go.Extern.Stop Go.Stop Go.Extern

theorem call30 (args : Array Value) (w : World) : (callFunc 30 args).run Tryf.prog w = ((FmtStop.errorf #[9, 56] #[26] args).run Tryf.prog w).andThen fun v w' => .ok (.value v) w' :=
  run_callFunc_extern Tryf.func30 (by kernel_rfl) (by kernel_rfl) (by kernel_rfl) (by kernel_rfl) args w
theorem call43 (args : Array Value) (w : World) : (callFunc 43 args).run Tryf.prog w = ((FmtStop.sprintf #[9, 56] #[9] args).run Tryf.prog w).andThen fun v w' => .ok (.value v) w' :=
  run_callFunc_extern Tryf.func43 (by kernel_rfl) (by kernel_rfl) (by kernel_rfl) (by kernel_rfl) args w
theorem guardF (name : String) (w : World) : (FmtStop.guard name).run Tryf.prog w = .ok () w := by kernel_rfl
/-- object, %q, colon, %s -/
theorem fmtA (w : World) : (FmtDoors.printed ⟨#[111, 98, 106, 101, 99, 116, 32, 37, 113, 58, 32, 37, 115]⟩ 2).run Tryf.prog w = .ok [(0, 113, false), (1, 115, false)] w := by kernel_rfl
/-- user, %q, colon, %s -/
theorem fmtB (w : World) : (FmtDoors.printed ⟨#[117, 115, 101, 114, 32, 37, 113, 58, 32, 37, 115]⟩ 2).run Tryf.prog w = .ok [(0, 113, false), (1, 115, false)] w := by kernel_rfl
/-- %s, %q, colon, %s -/
theorem fmtC (w : World) : (FmtDoors.printed ⟨#[37, 115, 32, 37, 113, 58, 32, 37, 115]⟩ 3).run Tryf.prog w = .ok [(0, 115, false), (1, 113, false), (2, 115, false)] w := by kernel_rfl
/-- %U -/
theorem fmtD (w : World) : (FmtDoors.printed ⟨#[37, 85]⟩ 1).run Tryf.prog w = .ok [(0, 85, false)] w := by kernel_rfl
theorem fmtD' : FmtStop.printed? ⟨#[37, 85]⟩ 1 = some [(0, 85, false)] := by kernel_rfl
def shape9 : List UInt8 := [12, 6, 0, 0, 0, 0, 0, 0, 0, 115, 116, 114, 105, 110, 103]
def shape21 : List UInt8 := [4, 5, 0, 0, 0, 0, 0, 0, 0, 105, 110, 116, 51, 50]
theorem opS113 (name : String) (x : ByteArray) (w : World) : (FmtStop.operand name true 113 false (.iface 9 (.string x))).run Tryf.prog w = .ok (shape9, FmtStop.pack x.data.toList) w := by kernel_rfl
theorem opS115 (name : String) (x : ByteArray) (w : World) : (FmtStop.operand name true 115 false (.iface 9 (.string x))).run Tryf.prog w = .ok (shape9, FmtStop.pack x.data.toList) w := by kernel_rfl
theorem opR85 (name : String) (x : Int) (w : World) : (FmtStop.operand name false 85 false (.iface 21 (.int .i32 x))).run Tryf.prog w = .ok (shape21, digits 8 (x % 2 ^ 64).toNat) w := by kernel_rfl

theorem ptrE (w : World) : (FmtStop.ptrTo "errors.errorString").run Tryf.prog w = .ok 63 w := by kernel_rfl
theorem elemE (w : World) : (elemOf 63).run Tryf.prog w = .ok 65 w := by kernel_rfl
theorem textE (w : World) : (FmtDoors.textMethod 63 "Error").run Tryf.prog w = .ok true w := by kernel_rfl

/-- An error that is not nil, over a world in which nothing that was there has turned. -/
def Erred (w : World) (e : Ending) (w' : World) : Prop := (∃ v, e = .returned (.iface 63 v)) ∧ Below w.heap.size w w'

set_option maxHeartbeats 800000 in
theorem errorfA (F : Interp) (x y : ByteArray) (b : Nat) (w : World) (hF : F.answers w.tape) (h0 : w.cell? ⟨b, 0, none⟩ = some (.iface 9 (.string x))) (h1 : w.cell? ⟨b, 1, none⟩ = some (.iface 9 (.string y))) :
    Calls Tryf.prog 23 #[.string ⟨#[111, 98, 106, 101, 99, 116, 32, 37, 113, 58, 32, 37, 115]⟩, .slice (some ⟨b, 0, none⟩) 2 2] w (Erred w) := by
  have hF' := answers_open hF
  have c30 := call30; have g := guardF; have p := fmtA; have o1 := opS113; have o2 := opS115; have q1 := ptrE; have q2 := elemE; have q3 := textE
  go_enter Tryf.func23, Tryf.ntmps23
  go_wp2
  go_ret
  exact ⟨⟨_, rfl⟩, by go_grown⟩
set_option maxHeartbeats 800000 in
theorem errorfB (F : Interp) (x y : ByteArray) (b : Nat) (w : World) (hF : F.answers w.tape) (h0 : w.cell? ⟨b, 0, none⟩ = some (.iface 9 (.string x))) (h1 : w.cell? ⟨b, 1, none⟩ = some (.iface 9 (.string y))) :
    Calls Tryf.prog 23 #[.string ⟨#[117, 115, 101, 114, 32, 37, 113, 58, 32, 37, 115]⟩, .slice (some ⟨b, 0, none⟩) 2 2] w (Erred w) := by
  have hF' := answers_open hF
  have c30 := call30; have g := guardF; have p := fmtB; have o1 := opS113; have o2 := opS115; have q1 := ptrE; have q2 := elemE; have q3 := textE
  go_enter Tryf.func23, Tryf.ntmps23
  go_wp2
  go_ret
  exact ⟨⟨_, rfl⟩, by go_grown⟩
set_option maxHeartbeats 800000 in
theorem errorfC (F : Interp) (x y z : ByteArray) (b : Nat) (w : World) (hF : F.answers w.tape) (h0 : w.cell? ⟨b, 0, none⟩ = some (.iface 9 (.string x))) (h1 : w.cell? ⟨b, 1, none⟩ = some (.iface 9 (.string y))) (h2 : w.cell? ⟨b, 2, none⟩ = some (.iface 9 (.string z))) :
    Calls Tryf.prog 23 #[.string ⟨#[37, 115, 32, 37, 113, 58, 32, 37, 115]⟩, .slice (some ⟨b, 0, none⟩) 3 3] w (Erred w) := by
  have hF' := answers_open hF
  have c30 := call30; have g := guardF; have p := fmtC; have o1 := opS113; have o2 := opS115; have q1 := ptrE; have q2 := elemE; have q3 := textE
  go_enter Tryf.func23, Tryf.ntmps23
  go_wp2
  go_ret
  exact ⟨⟨_, rfl⟩, by go_grown⟩
end Go.Proofs.Qxb6606252aFmt
