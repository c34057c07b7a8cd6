/- fmt.Errorf by contract (its text is left open): a new error of errors.New's make. errors.As at such an error: false; impl.faultOf: another fault. -/
import Derived.Test.YtpdmmmcelkinjaaFmtNode
import Derived.WalkKit
import Derived.Lib.Hide
import Derived.Outline
import Derived.Stop.CallBack
import Derived.Stop.IfaceNil
import Derived.WalkSpells
import GoSem.ClaimData
namespace Go.Proofs.YtpdmmmcelkinjaaFmt
open Go.ChangeShapes Go.WideShapes Go.ChangeAt Go.RowKit Go.Extern.Stop Go.Stop Go.Extern
set_option maxRecDepth 20000
theorem fcall (args : Array Value) (w : World) : (callFunc 53 args).run Tryf.prog w = ((FmtStop.errorf #[9, 92] #[61] args).run Tryf.prog w).andThen fun v w' => .ok (.value v) w' :=
  run_callFunc_extern Tryf.func53 (by kernel_rfl) (by kernel_rfl) (by kernel_rfl) (by kernel_rfl) args w
theorem fguard (name : String) (w : World) : (FmtStop.guard name).run Tryf.prog w = .ok () w := by kernel_rfl
abbrev shapeU : List UInt8 := FmtStop.intCode .u64 :: FmtStop.pack "uint64".toUTF8.data.toList
abbrev shapeI : List UInt8 := FmtStop.intCode .i64 :: FmtStop.pack "int".toUTF8.data.toList
theorem opU (name : String) (x : Int) (w : World) : (FmtStop.operand name true 100 false (.iface 27 (.int .u64 x))).run Tryf.prog w = .ok (shapeU, Go.Extern.Stop.digits 8 (x % 2 ^ 64).toNat) w := by kernel_rfl
theorem opI (name : String) (x : Int) (w : World) : (FmtStop.operand name true 100 false (.iface 3 (.int .i64 x))).run Tryf.prog w = .ok (shapeI, Go.Extern.Stop.digits 8 (x % 2 ^ 64).toNat) w := by kernel_rfl
theorem fptr (w : World) : (FmtStop.ptrTo "errors.errorString").run Tryf.prog w = .ok 98 w := by kernel_rfl
theorem felem (w : World) : (elemOf 98).run Tryf.prog w = .ok 100 w := by kernel_rfl
theorem fisError (w : World) : (FmtDoors.textMethod 98 "Error").run Tryf.prog w = .ok true w := by kernel_rfl
/-- A format of two %d; of one. -/
def Fmt2 (f : ByteArray) : Prop := FmtStop.printed? f 2 = some [(0, 100, false), (1, 100, false)] ∧ ∀ w, (FmtDoors.printed f 2).run Tryf.prog w = .ok [(0, 100, false), (1, 100, false)] w
def Fmt1 (f : ByteArray) : Prop := FmtStop.printed? f 1 = some [(0, 100, false)] ∧ ∀ w, (FmtDoors.printed f 1).run Tryf.prog w = .ok [(0, 100, false)] w
/-- A new error of errors.New's make. -/
def RetErr (w : World) (e : Ending) (w' : World) : Prop := (∃ g, e = .returned (.iface 98 (.pointer (some ⟨g, 0, none⟩)))) ∧ Below w.heap.size w w'
theorem errorf_uu (F : Interp) (f : ByteArray) (hf : Fmt2 f) (x y : Int) (blk : Nat) (w : World) (hF : F.answers w.tape)
    (hc0 : w.cell? ⟨blk, 0, none⟩ = some (.iface 27 (.int .u64 x))) (hc1 : w.cell? ⟨blk, 1, none⟩ = some (.iface 27 (.int .u64 y))) :
    Calls Tryf.prog 41 #[.string f, .slice (some ⟨blk, 0, none⟩) 2 2] w (RetErr w) := by
  have hF' := answers_open hF
  obtain ⟨h1, h2⟩ := hf
  have a1 := fcall
  have a2 := fguard
  have a3 := opU
  have a5 := fptr
  have a6 := felem
  have a7 := fisError
  go_enter Tryf.func41, Tryf.ntmps41
  go_wp2
  go_ret
  exact ⟨⟨_, rfl⟩, ((Below.refl _ _).alloc (Nat.le_refl _) _).drew⟩
theorem errorf_ii (F : Interp) (f : ByteArray) (hf : Fmt2 f) (x y : Int) (blk : Nat) (w : World) (hF : F.answers w.tape)
    (hc0 : w.cell? ⟨blk, 0, none⟩ = some (.iface 3 (.int .i64 x))) (hc1 : w.cell? ⟨blk, 1, none⟩ = some (.iface 3 (.int .i64 y))) :
    Calls Tryf.prog 41 #[.string f, .slice (some ⟨blk, 0, none⟩) 2 2] w (RetErr w) := by
  have hF' := answers_open hF
  obtain ⟨h1, h2⟩ := hf
  have a1 := fcall
  have a2 := fguard
  have a3 := opI
  have a5 := fptr
  have a6 := felem
  have a7 := fisError
  go_enter Tryf.func41, Tryf.ntmps41
  go_wp2
  go_ret
  exact ⟨⟨_, rfl⟩, ((Below.refl _ _).alloc (Nat.le_refl _) _).drew⟩
theorem errorf_u (F : Interp) (f : ByteArray) (hf : Fmt1 f) (x : Int) (blk : Nat) (w : World) (hF : F.answers w.tape)
    (hc0 : w.cell? ⟨blk, 0, none⟩ = some (.iface 27 (.int .u64 x))) :
    Calls Tryf.prog 41 #[.string f, .slice (some ⟨blk, 0, none⟩) 1 1] w (RetErr w) := by
  have hF' := answers_open hF
  obtain ⟨h1, h2⟩ := hf
  have a1 := fcall
  have a2 := fguard
  have a3 := opU
  have a5 := fptr
  have a6 := felem
  have a7 := fisError
  go_enter Tryf.func41, Tryf.ntmps41
  go_wp2
  go_ret
  exact ⟨⟨_, rfl⟩, ((Below.refl _ _).alloc (Nat.le_refl _) _).drew⟩
theorem ans_below {F : Interp} {B : Nat} {w w' : World} (h : F.answers w.tape) (hb : Below B w w') : F.answers w'.tape := by rw [hb.tape]; exact h
end Go.Proofs.YtpdmmmcelkinjaaFmt
