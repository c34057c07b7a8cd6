/- fmt.Errorf by contract (its text is left open): a new error of errors.New's make. errors.As at such an error: false; impl.faultOf: another fault. -/
import Derived.Test.YtobnmgnnidhfkaaFmtAs
import Derived.Stop.CallBack
import Derived.Stop.IfaceNil
import Derived.WalkSpells
import GoSem.ClaimData
namespace Go.Proofs.YtobnmgnnidhfkaaFmt
open Go.ChangeShapes Go.WideShapes Go.ChangeAt Go.RowKit Go.Extern.Stop Go.Stop Go.Extern
set_option maxRecDepth 20000
theorem fcall (args : Array Value) (w : World) : (callFunc 56 args).run Tryf.prog w = ((FmtStop.errorf #[9, 109] #[55] args).run Tryf.prog w).andThen fun v w' => .ok (.value v) w' :=
  run_callFunc_extern Tryf.func56 (by kernel_rfl) (by kernel_rfl) (by kernel_rfl) (by kernel_rfl) args w
theorem fguard (name : String) (w : World) : (FmtStop.guard name).run Tryf.prog w = .ok () w := by kernel_rfl
abbrev shapeU : List UInt8 := FmtStop.intCode .u64 :: FmtStop.pack "uint64".toUTF8.data.toList
abbrev shapeI : List UInt8 := FmtStop.intCode .i64 :: FmtStop.pack "int".toUTF8.data.toList
theorem opU (name : String) (x : Int) (w : World) : (FmtStop.operand name true 100 false (.iface 25 (.int .u64 x))).run Tryf.prog w = .ok (shapeU, Go.Extern.Stop.digits 8 (x % 2 ^ 64).toNat) w := by kernel_rfl
theorem opI (name : String) (x : Int) (w : World) : (FmtStop.operand name true 100 false (.iface 3 (.int .i64 x))).run Tryf.prog w = .ok (shapeI, Go.Extern.Stop.digits 8 (x % 2 ^ 64).toNat) w := by kernel_rfl
theorem fptr (w : World) : (FmtStop.ptrTo "errors.errorString").run Tryf.prog w = .ok 137 w := by kernel_rfl
theorem felem (w : World) : (elemOf 137).run Tryf.prog w = .ok 139 w := by kernel_rfl
theorem fisError (w : World) : (FmtDoors.textMethod 137 "Error").run Tryf.prog w = .ok true w := by kernel_rfl
/-- A format of two %d; of one. -/
def Fmt2 (f : ByteArray) : Prop := FmtStop.printed? f 2 = some [(0, 100, false), (1, 100, false)] ∧ ∀ w, (FmtDoors.printed f 2).run Tryf.prog w = .ok [(0, 100, false), (1, 100, false)] w
def Fmt1 (f : ByteArray) : Prop := FmtStop.printed? f 1 = some [(0, 100, false)] ∧ ∀ w, (FmtDoors.printed f 1).run Tryf.prog w = .ok [(0, 100, false)] w
/-- A new error of errors.New's make. -/
def RetErr (w : World) (e : Ending) (w' : World) : Prop := (∃ g, e = .returned (.iface 137 (.pointer (some ⟨g, 0, none⟩)))) ∧ Below w.heap.size w w'
theorem errorf_uu (F : Interp) (f : ByteArray) (hf : Fmt2 f) (x y : Int) (blk : Nat) (w : World) (hF : F.answers w.tape)
    (hc0 : w.cell? ⟨blk, 0, none⟩ = some (.iface 25 (.int .u64 x))) (hc1 : w.cell? ⟨blk, 1, none⟩ = some (.iface 25 (.int .u64 y))) :
    Calls Tryf.prog 33 #[.string f, .slice (some ⟨blk, 0, none⟩) 2 2] w (RetErr w) := by
  have hF' := answers_open hF
  obtain ⟨h1, h2⟩ := hf
  have a1 := fcall
  have a2 := fguard
  have a3 := opU
  have a5 := fptr
  have a6 := felem
  have a7 := fisError
  go_enter Tryf.func33, Tryf.ntmps33
  go_wp2
  go_ret
  exact ⟨⟨_, rfl⟩, ((Below.refl _ _).alloc (Nat.le_refl _) _).drew⟩
theorem errorf_ii (F : Interp) (f : ByteArray) (hf : Fmt2 f) (x y : Int) (blk : Nat) (w : World) (hF : F.answers w.tape)
    (hc0 : w.cell? ⟨blk, 0, none⟩ = some (.iface 3 (.int .i64 x))) (hc1 : w.cell? ⟨blk, 1, none⟩ = some (.iface 3 (.int .i64 y))) :
    Calls Tryf.prog 33 #[.string f, .slice (some ⟨blk, 0, none⟩) 2 2] w (RetErr w) := by
  have hF' := answers_open hF
  obtain ⟨h1, h2⟩ := hf
  have a1 := fcall
  have a2 := fguard
  have a3 := opI
  have a5 := fptr
  have a6 := felem
  have a7 := fisError
  go_enter Tryf.func33, Tryf.ntmps33
  go_wp2
  go_ret
  exact ⟨⟨_, rfl⟩, ((Below.refl _ _).alloc (Nat.le_refl _) _).drew⟩
theorem errorf_u (F : Interp) (f : ByteArray) (hf : Fmt1 f) (x : Int) (blk : Nat) (w : World) (hF : F.answers w.tape)
    (hc0 : w.cell? ⟨blk, 0, none⟩ = some (.iface 25 (.int .u64 x))) :
    Calls Tryf.prog 33 #[.string f, .slice (some ⟨blk, 0, none⟩) 1 1] w (RetErr w) := by
  have hF' := answers_open hF
  obtain ⟨h1, h2⟩ := hf
  have a1 := fcall
  have a2 := fguard
  have a3 := opU
  have a5 := fptr
  have a6 := felem
  have a7 := fisError
  go_enter Tryf.func33, Tryf.ntmps33
  go_wp2
  go_ret
  exact ⟨⟨_, rfl⟩, ((Below.refl _ _).alloc (Nat.le_refl _) _).drew⟩
theorem ans_below {F : Interp} {B : Nat} {w w' : World} (h : F.answers w.tape) (hb : Below B w w') : F.answers w'.tape := by rw [hb.tape]; exact h
/-! errors.As at an error of errors.New's make. -/
abbrev hS : Value := .pointer (some ⟨2, 137, none⟩)
theorem typeOfS (v : Value) (w : World) : (ReflectliteType.typeOf #[.iface 137 v]).run Tryf.prog w = .ok (.iface 142 (.agg #[hS])) w := by kernel_rfl
theorem assignableS (w : World) : (ReflectliteType.relation "AssignableTo" ReflectliteType.assignableTo #[.agg #[hS], .iface 142 (.agg #[hE])]).run Tryf.prog w = .ok (.bool false) w := by kernel_rfl
theorem noAs (v : Value) (xT : TypeId) (w : World) : (Instr.typeAssert (.iface 137 v) xT 147 true).run Tryf.prog w = .ok (.tuple #[.nilIface, .bool false]) w := run_typeAssert_lacksB Tryf.underlying147 (by kernel_rfl) (by kernel_rfl) v xT w
theorem noUn (v : Value) (xT : TypeId) (w : World) : (Instr.typeAssert (.iface 137 v) xT 150 true).run Tryf.prog w = .ok (.tuple #[.nilIface, .bool false]) w := run_typeAssert_lacksB Tryf.underlying150 (by kernel_rfl) (by kernel_rfl) v xT w
theorem noUns (v : Value) (xT : TypeId) (w : World) : (Instr.typeAssert (.iface 137 v) xT 152 true).run Tryf.prog w = .ok (.tuple #[.nilIface, .bool false]) w := run_typeAssert_lacksB Tryf.underlying152 (by kernel_rfl) (by kernel_rfl) v xT w
set_option maxHeartbeats 4000000 in
theorem as_miss (tb : Nat) (x0 y0 : Value) (a : Addr) (w : World) (hg : Handle w) (hT : Blk w tb 92 #[x0, y0]) :
    Calls Tryf.prog 41 #[.iface 137 (.pointer (some a)), .iface 94 (.pointer (some ⟨tb, 0, none⟩))] w fun ev w' => ev = .returned (.bool false) ∧ Below w.heap.size w w' := by
  have h6 := @run_callFunc_extern Tryf.prog 67 _ (fun args => ReflectliteValue.unpack (args.getD 0 (.tuple #[]))) Tryf.func67 (by kernel_rfl) (by kernel_rfl) (by kernel_rfl) (by kernel_rfl)
  have h7 := @run_callFunc_extern Tryf.prog 68 _ (ReflectliteValue.methodAny (ReflectliteValue.valueError "reflectlite.Value.Type" 0) (fun t _ _ _ => ReflectliteType.toType t)) Tryf.func68 (by kernel_rfl) (by kernel_rfl) (by kernel_rfl) (by kernel_rfl)
  have h8 := @run_callFunc_extern Tryf.prog 69 _ (ReflectliteValue.method (ReflectliteValue.valueError "reflectlite.Value.IsNil" 0) ReflectliteValue.isNil) Tryf.func69 (by kernel_rfl) (by kernel_rfl) (by kernel_rfl) (by kernel_rfl)
  have h27 := @run_callFunc_extern Tryf.prog 92 _ (ReflectliteType.abiMethod fun t => do pure (.int .u8 (← Rtype.kind t))) Tryf.func92 (by kernel_rfl) (by kernel_rfl) (by kernel_rfl) (by kernel_rfl)
  have h37 := @run_callFunc_extern Tryf.prog 106 _ (ReflectliteType.method ReflectliteType.elem) Tryf.func106 (by kernel_rfl) (by kernel_rfl) (by kernel_rfl) (by kernel_rfl)
  have h38 := @run_callFunc_extern Tryf.prog 107 _ (ReflectliteType.relation "Implements" ReflectliteType.implements_) Tryf.func107 (by kernel_rfl) (by kernel_rfl) (by kernel_rfl) (by kernel_rfl)
  have h10 := @run_callFunc_extern Tryf.prog 74 _ ReflectliteType.typeOf Tryf.func74 (by kernel_rfl) (by kernel_rfl) (by kernel_rfl) (by kernel_rfl)
  have h35 := @run_callFunc_extern Tryf.prog 104 _ (ReflectliteType.relation "AssignableTo" ReflectliteType.assignableTo) Tryf.func104 (by kernel_rfl) (by kernel_rfl) (by kernel_rfl) (by kernel_rfl)
  have tO := typeOfS
  have mA := methodAssignableTo
  have a25 := assignableS
  have f6 := valueOfP
  have f7 := typeP
  have mK := methodKind
  have mE := methodElem
  have mI := methodImplements
  have k27 := kindP
  have k25 := kindE
  have e27 := elemP
  have i25 := implementsE
  have n1 := noAs
  have n2 := noUn
  have n3 := noUns
  have n8 := fun o => isNilP ⟨w.heap.size, 0, none⟩ ⟨tb, 0, none⟩ ((w.alloc (.cells #[.pointer (some ⟨tb, 0, none⟩)] 94)).alloc o) ((((Blk.new w 94 #[.pointer (some ⟨tb, 0, none⟩)]).alloc o)).cell 0)
  have hg2 := fun o1 o2 => (World.cell?_alloc_lt (w.alloc o1) o2 ⟨0, 0, none⟩ (by have := World.block_lt_of_cell? w _ hg; simp <;> omega)).trans ((World.cell?_alloc_lt w o1 ⟨0, 0, none⟩ (World.block_lt_of_cell? w _ hg)).trans hg)
  have htl : tb < w.heap.size := hT.lt
  have htl1 : tb < w.heap.size + 1 := by omega
  clear hg hT
  go_enter Tryf.func41, Tryf.ntmps41
  go_wp2
  refine wp_loop_rounds 1 ?_
  rw [rounds_succ]
  go_wp2
  go_ret
  exact ⟨rfl, (((Below.refl _ _).alloc (Nat.le_refl _) _).alloc (by simp) _).alloc (by simp; omega) _⟩
theorem fault_other (a : Addr) (w : World) (hg : Handle w) : Calls Tryf.prog 23 #[.iface 137 (.pointer (some a))] w fun e w' => e = .returned (.int .i64 2) ∧ Below w.heap.size w w' := by
  have HA := Lib.hid (fun W (h : Handle W) hT => as_miss w.heap.size (.slice none 0 0) (.slice none 0 0) a W h hT)
  have HG := Lib.hid hg
  clear hg
  go_enter Tryf.func23, Tryf.ntmps23
  go_wp2_with fail
  refine (HA.out _ (HG.out.below ((Below.refl _ _).alloc (Nat.le_refl _) _)) (Blk.new _ _ _)).mono ?_
  rintro e w' ⟨rfl, hb⟩
  go_wp2
  go_ret
  exact ⟨rfl, ((Below.refl _ _).alloc (Nat.le_refl _) _).trans (hb.mono (by simp))⟩
end Go.Proofs.YtobnmgnnidhfkaaFmt
