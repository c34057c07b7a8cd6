/- errors.As at the target that impl.faultOf hands it: by the guide's worked text for such a call. -/
import Derived.Test.YtobnmgnnidhfkaaFmtNode
import Derived.WalkKit
import Derived.LaidEql
import Derived.Stop.Asserts
import Derived.RowKitTokens
import Derived.Lib.Hide
import Derived.Outline
namespace Go.Proofs.YtobnmgnnidhfkaaFmt
open Go.ChangeShapes Go.WideShapes Go.ChangeAt Go.RowKit Go.Extern.Stop Go.Stop Go.Extern
set_option maxRecDepth 20000

/-! Closed facts on the model's entries, at the type of the mismatch's error and the pointer to it. -/
abbrev hP : Value := .pointer (some ⟨2, 94, none⟩)
abbrev hE : Value := .pointer (some ⟨2, 92, none⟩)
abbrev hErr : Value := .pointer (some ⟨2, 55, none⟩)
theorem valueOfP (t : Addr) (w : World) : (ReflectliteValue.unpack (.iface 94 (.pointer (some t)))).run Tryf.prog w
    = .ok (.agg #[hP, .pointer (some ⟨w.heap.size, 0, none⟩), .int .u64 150]) (w.alloc (.cells #[.pointer (some t)] 94)) := by kernel_rfl
theorem typeP (a : Addr) (w : World) : (ReflectliteValue.methodAny (ReflectliteValue.valueError "reflectlite.Value.Type" 0) (fun t _ _ _ => ReflectliteType.toType t) #[.agg #[hP, .pointer (some a), .int .u64 150]]).run Tryf.prog w
    = .ok (.iface 142 (.agg #[hP])) w := by kernel_rfl
theorem methodKind (h : Value) (w : World) : (Go.method 289 142 (.agg #[h]) "Kind").run Tryf.prog w = .ok (92, h) w := by kernel_rfl
theorem kindP (w : World) : ((ReflectliteType.abiMethod fun t => (fun a : Nat => Value.int IntKind.u8 (a : Int)) <$> Rtype.kind t) #[hP]).run Tryf.prog w = .ok (.int .u8 22) w := by kernel_rfl
theorem kindE (w : World) : ((ReflectliteType.abiMethod fun t => (fun a : Nat => Value.int IntKind.u8 (a : Int)) <$> Rtype.kind t) #[hE]).run Tryf.prog w = .ok (.int .u8 25) w := by kernel_rfl
theorem rlm (z : Sem Value) (f : TypeId → Addr → Nat → Nat → Sem Value) (v : Value) :
    ReflectliteValue.method z f #[v] = (do match ← ReflectliteValue.parts v with | none => z | some (t, a, fl) => f t a fl (fl % 32)) := rfl
theorem partsP (a : Addr) (w : World) : (ReflectliteValue.parts (.agg #[hP, .pointer (some a), .int .u64 150])).run Tryf.prog w = .ok (some (94, a, 150)) w := by kernel_rfl
theorem isNilP (a p : Addr) (W : World) (ha : W.cell? a = some (.pointer (some p))) :
    (ReflectliteValue.method (ReflectliteValue.valueError "reflectlite.Value.IsNil" 0) ReflectliteValue.isNil #[.agg #[hP, .pointer (some a), .int .u64 150]]).run Tryf.prog W = .ok (.bool false) W := by
  rw [rlm]
  simp only [Sem.run_bind, partsP, Result.andThen]
  simp [ReflectliteValue.isNil, loadVar, isAgg, underlying, Tryf.underlying94, ha, Result.andThen]
theorem methodElem (h : Value) (w : World) : (Go.method 289 142 (.agg #[h]) "Elem").run Tryf.prog w = .ok (106, .agg #[h]) w := by kernel_rfl
theorem methodAssignableTo (h : Value) (w : World) : (Go.method 289 142 (.agg #[h]) "AssignableTo").run Tryf.prog w = .ok (104, .agg #[h]) w := by kernel_rfl
theorem elemP (w : World) : (ReflectliteType.method ReflectliteType.elem #[.agg #[hP]]).run Tryf.prog w = .ok (.iface 142 (.agg #[hE])) w := by kernel_rfl
theorem typeOfE (v : Value) (w : World) : (ReflectliteType.typeOf #[.iface 92 v]).run Tryf.prog w = .ok (.iface 142 (.agg #[hE])) w := by kernel_rfl
theorem assignableE (w : World) : (ReflectliteType.relation "AssignableTo" ReflectliteType.assignableTo #[.agg #[hE], .iface 142 (.agg #[hE])]).run Tryf.prog w = .ok (.bool true) w := by kernel_rfl
theorem valueOfE (x y : Value) (w : World) : (ReflectliteValue.unpack (.iface 92 (.agg #[x, y]))).run Tryf.prog w
    = .ok (.agg #[hE, .pointer (some ⟨w.heap.size, 0, none⟩), .int .u64 153]) (w.alloc (.cells #[x, y] 92)) := by kernel_rfl
theorem elemOfP (w : World) : (Rtype.elem? 94).run Tryf.prog w = .ok (some 92) w := by kernel_rfl
theorem mkE (p : Addr) (w : World) : (ReflectliteValue.mk 92 p ReflectliteValue.flagAddr).run Tryf.prog w = .ok (.agg #[hE, .pointer (some p), .int .u64 409]) w := by kernel_rfl
theorem elemVP (a p : Addr) (W : World) (ha : W.cell? a = some (.pointer (some p))) :
    (ReflectliteValue.method (ReflectliteValue.valueError "reflectlite.Value.Elem" 0) ReflectliteValue.elem #[.agg #[hP, .pointer (some a), .int .u64 150]]).run Tryf.prog W
      = .ok (.agg #[hE, .pointer (some p), .int .u64 409]) W := by
  rw [rlm]
  simp only [Sem.run_bind, partsP, Result.andThen]
  simp [ReflectliteValue.elem, loadVar, isAgg, underlying, Tryf.underlying94, ha, Result.andThen, elemOfP, mkE]
theorem methodImplements (h : Value) (w : World) : (Go.method 289 142 (.agg #[h]) "Implements").run Tryf.prog w = .ok (107, .agg #[h]) w := by kernel_rfl
theorem implementsE (w : World) : (ReflectliteType.relation "Implements" ReflectliteType.implements_ #[.agg #[hE], .iface 142 (.agg #[hErr])]).run Tryf.prog w = .ok (.bool true) w := by kernel_rfl
theorem rls (v x : Value) : ReflectliteValue.set #[v, x] = (do
    let (some (dst, a, fl), some (src, b, _)) := (← ReflectliteValue.parts v, ← ReflectliteValue.parts x)
      | unsupported (.noEntry "extern/(internal/reflectlite.Value).Set.zeroValue")
    if fl / ReflectliteValue.flagAddr % 2 == 0 then unsupported (.noEntry "extern/(internal/reflectlite.Value).Set.unaddressable")
    let val ← loadVar src b
    if ← Rtype.directlyAssignable dst src then storeVar dst a val
    else if ← Rtype.implements dst src then
      if (← Rtype.kind src) == 20 then
        match val with
        | .nilIface => unsupported (.noEntry "extern/reflectlite: a nil value of one interface type handed on as a value of another")
        | _ => storeVar dst a val
      else storeVar dst a (.iface src val)
    else panicString ("reflectlite.Set: value of type " ++ (← Rtype.spelt src) ++ " is not assignable to type " ++ (← Rtype.spelt dst))
    pure (.tuple #[])) := rfl
theorem partsEa (a : Addr) (w : World) : (ReflectliteValue.parts (.agg #[hE, .pointer (some a), .int .u64 409])).run Tryf.prog w = .ok (some (92, a, 409)) w := by kernel_rfl
theorem partsE (a : Addr) (w : World) : (ReflectliteValue.parts (.agg #[hE, .pointer (some a), .int .u64 153])).run Tryf.prog w = .ok (some (92, a, 153)) w := by kernel_rfl
theorem directE (w : World) : (Rtype.directlyAssignable 92 92).run Tryf.prog w = .ok true w := by kernel_rfl
theorem setE (tb b : Nat) (x0 y0 : Value) (n1 n2 c1 c2 : Nat) (A1 A2 : Option Addr) (W : World) (hx : W.cell? ⟨b, 0, none⟩ = some (.slice A1 n1 c1)) (hy : W.cell? ⟨b, 1, none⟩ = some (.slice A2 n2 c2)) (h0 : W.cell? ⟨tb, 0, none⟩ = some x0) (h1 : W.cell? ⟨tb, 1, none⟩ = some y0) (f0 : W.frozen? ⟨tb, 0, none⟩ = false) (f1 : W.frozen? ⟨tb, 1, none⟩ = false) :
    (ReflectliteValue.set #[.agg #[hE, .pointer (some ⟨tb, 0, none⟩), .int .u64 409], .agg #[hE, .pointer (some ⟨b, 0, none⟩), .int .u64 153]]).run Tryf.prog W
      = .ok (.tuple #[]) ((W.setCell ⟨tb, 0, none⟩ (.slice A1 n1 c1)).setCell ⟨tb, 1, none⟩ (.slice A2 n2 c2)) := by
  rw [rls]
  simp only [Sem.run_bind, partsEa, partsE, Result.andThen]
  have hl : (loadVar 92 ⟨b, 0, none⟩).run Tryf.prog W = .ok (.agg #[.slice A1 n1 c1, .slice A2 n2 c2]) W := by
    go_simp
  have hs : (storeVar 92 ⟨tb, 0, none⟩ (.agg #[.slice A1 n1 c1, .slice A2 n2 c2])).run Tryf.prog W = .ok () ((W.setCell ⟨tb, 0, none⟩ (.slice A1 n1 c1)).setCell ⟨tb, 1, none⟩ (.slice A2 n2 c2)) := by
    go_simp
  simp [ReflectliteValue.flagAddr, Result.andThen, directE, hl, hs]
end Go.Proofs.YtobnmgnnidhfkaaFmt
/- errors.As finds the mismatch's error; impl.faultOf. -/
namespace Go.Proofs.YtobnmgnnidhfkaaFmt
open Go.ChangeShapes Go.WideShapes Go.ChangeAt Go.RowKit Go.Extern.Stop Go.Stop Go.Extern
set_option maxRecDepth 20000
/-- The handle of the type 'error' in its variable. -/
def Handle (w : World) : Prop := w.cell? ⟨0, 0, none⟩ = some (.iface 142 (.agg #[hErr]))
theorem Handle.below {w w' : World} (h : Handle w) (hb : Below w.heap.size w w') : Handle w' := (hb.cell (World.block_lt_of_cell? w _ h)).trans h
set_option maxHeartbeats 4000000 in
theorem as_hit (tb : Nat) (x0 y0 : Value) (n1 n2 c1 c2 : Nat) (A1 A2 : Option Addr) (w : World) (hg : Handle w) (hT : Blk w tb 92 #[x0, y0]) :
    Calls Tryf.prog 41 #[.iface 92 (.agg #[.slice A1 n1 c1, .slice A2 n2 c2]), .iface 94 (.pointer (some ⟨tb, 0, none⟩))] w fun ev w' => ev = .returned (.bool true) ∧ Below tb w w' := by
  have h6 := @run_callFunc_extern Tryf.prog 67 _ (fun args => ReflectliteValue.unpack (args.getD 0 (.tuple #[]))) Tryf.func67 (by kernel_rfl) (by kernel_rfl) (by kernel_rfl) (by kernel_rfl)
  have h7 := @run_callFunc_extern Tryf.prog 68 _ (ReflectliteValue.methodAny (ReflectliteValue.valueError "reflectlite.Value.Type" 0) (fun t _ _ _ => ReflectliteType.toType t)) Tryf.func68 (by kernel_rfl) (by kernel_rfl) (by kernel_rfl) (by kernel_rfl)
  have h8 := @run_callFunc_extern Tryf.prog 69 _ (ReflectliteValue.method (ReflectliteValue.valueError "reflectlite.Value.IsNil" 0) ReflectliteValue.isNil) Tryf.func69 (by kernel_rfl) (by kernel_rfl) (by kernel_rfl) (by kernel_rfl)
  have h27 := @run_callFunc_extern Tryf.prog 92 _ (ReflectliteType.abiMethod fun t => do pure (.int .u8 (← Rtype.kind t))) Tryf.func92 (by kernel_rfl) (by kernel_rfl) (by kernel_rfl) (by kernel_rfl)
  have h37 := @run_callFunc_extern Tryf.prog 106 _ (ReflectliteType.method ReflectliteType.elem) Tryf.func106 (by kernel_rfl) (by kernel_rfl) (by kernel_rfl) (by kernel_rfl)
  have h38 := @run_callFunc_extern Tryf.prog 107 _ (ReflectliteType.relation "Implements" ReflectliteType.implements_) Tryf.func107 (by kernel_rfl) (by kernel_rfl) (by kernel_rfl) (by kernel_rfl)
  have h10 := @run_callFunc_extern Tryf.prog 74 _ ReflectliteType.typeOf Tryf.func74 (by kernel_rfl) (by kernel_rfl) (by kernel_rfl) (by kernel_rfl)
  have h35 := @run_callFunc_extern Tryf.prog 104 _ (ReflectliteType.relation "AssignableTo" ReflectliteType.assignableTo) Tryf.func104 (by kernel_rfl) (by kernel_rfl) (by kernel_rfl) (by kernel_rfl)
  have h11 := @run_callFunc_extern Tryf.prog 75 _ (ReflectliteValue.method (ReflectliteValue.valueError "reflectlite.Value.Elem" 0) ReflectliteValue.elem) Tryf.func75 (by kernel_rfl) (by kernel_rfl) (by kernel_rfl) (by kernel_rfl)
  have h12 := @run_callFunc_extern Tryf.prog 76 _ ReflectliteValue.set Tryf.func76 (by kernel_rfl) (by kernel_rfl) (by kernel_rfl) (by kernel_rfl)
  have tO := typeOfE
  have mA := methodAssignableTo
  have a25 := assignableE
  have v25 := valueOfE
  have f6 := valueOfP
  have f7 := typeP
  have mK := methodKind
  have mE := methodElem
  have mI := methodImplements
  have k27 := kindP
  have k25 := kindE
  have e27 := elemP
  have i25 := implementsE
  obtain ⟨t0, t1, t2, t3⟩ := hT.two
  have HT := Lib.hid hT
  have HG := Lib.hid hg
  have n8 := fun o => isNilP ⟨w.heap.size, 0, none⟩ ⟨tb, 0, none⟩ ((w.alloc (.cells #[.pointer (some ⟨tb, 0, none⟩)] 94)).alloc o) ((((Blk.new w 94 #[.pointer (some ⟨tb, 0, none⟩)]).alloc o)).cell 0)
  have hg2 := fun o1 o2 => (World.cell?_alloc_lt (w.alloc o1) o2 ⟨0, 0, none⟩ (by have := World.block_lt_of_cell? w _ hg; simp <;> omega)).trans ((World.cell?_alloc_lt w o1 ⟨0, 0, none⟩ (World.block_lt_of_cell? w _ hg)).trans hg)
  have el := fun o1 o2 => elemVP ⟨w.heap.size, 0, none⟩ ⟨tb, 0, none⟩ (((w.alloc (.cells #[.pointer (some ⟨tb, 0, none⟩)] 94)).alloc o1).alloc o2) ((((Blk.new w 94 #[.pointer (some ⟨tb, 0, none⟩)]).alloc o1).alloc o2).cell 0)
  have st := fun o1 o2 o3 => setE tb (w.heap.size + 1 + 1 + 1) x0 y0 n1 n2 c1 c2 A1 A2 ((((w.alloc o1).alloc o2).alloc o3).alloc (.cells #[.slice A1 n1 c1, .slice A2 n2 c2] 92))
    ((Blk.new' (g := w.heap.size + 1 + 1 + 1) _ _ _ (by simp)).two.1) ((Blk.new' (g := w.heap.size + 1 + 1 + 1) _ _ _ (by simp)).two.2.1)
    (((((hT.alloc o1).alloc o2).alloc o3).alloc _).two.1) (((((hT.alloc o1).alloc o2).alloc o3).alloc _).two.2.1) (((((hT.alloc o1).alloc o2).alloc o3).alloc _).two.2.2.1) (((((hT.alloc o1).alloc o2).alloc o3).alloc _).two.2.2.2)
  have htl : tb < w.heap.size := hT.lt
  have htl1 : tb < w.heap.size + 1 := by omega
  have htl2 : tb < w.heap.size + 1 + 1 := by omega
  have htl3 : tb < w.heap.size + 1 + 1 + 1 := by omega
  clear hg hT
  go_enter Tryf.func41, Tryf.ntmps41
  go_wp2
  refine wp_loop_rounds 1 ?_
  rw [rounds_succ]
  go_wp2
  go_ret
  have b2 := ((Below.refl tb w).setCell (p := ⟨tb, 0, none⟩) (Nat.le_refl _) (.slice A1 n1 c1)).setCell (p := ⟨tb, 1, none⟩) (Nat.le_refl _) (.slice A2 n2 c2)
  have hs : ((w.setCell ⟨tb, 0, none⟩ (.slice A1 n1 c1)).setCell ⟨tb, 1, none⟩ (.slice A2 n2 c2)).heap.size = w.heap.size := by simp [World.setCell]
  exact ⟨rfl, (((b2.alloc (by omega) _).alloc (by simp only [World.size_alloc]; omega) _).alloc (by simp only [World.size_alloc]; omega) _).alloc (by simp only [World.size_alloc]; omega) _⟩
theorem fault_nil (w : World) : Calls Tryf.prog 23 #[.nilIface] w fun e w' => e = .returned (.int .i64 0) ∧ Below w.heap.size w w' := by
  go_enter Tryf.func23, Tryf.ntmps23
  go_wp2
  go_ret
  exact ⟨rfl, (Below.refl _ _).alloc (Nat.le_refl _) _⟩
theorem fault_mis (n1 n2 c1 c2 : Nat) (A1 A2 : Option Addr) (w : World) (hg : Handle w) : Calls Tryf.prog 23 #[.iface 92 (.agg #[.slice A1 n1 c1, .slice A2 n2 c2])] w fun e w' => e = .returned (.int .i64 1) ∧ Below w.heap.size w w' := by
  have HA := Lib.hid (fun W (h : Handle W) hT => as_hit w.heap.size (.slice none 0 0) (.slice none 0 0) n1 n2 c1 c2 A1 A2 W h hT)
  have HG := Lib.hid hg
  clear hg
  go_enter Tryf.func23, Tryf.ntmps23
  go_wp2_with fail
  refine (HA.out _ (HG.out.below ((Below.refl _ _).alloc (Nat.le_refl _) _)) (Blk.new _ _ _)).mono ?_
  rintro e w' ⟨rfl, hb⟩
  go_wp2
  go_ret
  exact ⟨rfl, ((Below.refl _ _).alloc (Nat.le_refl _) _).trans hb⟩
end Go.Proofs.YtobnmgnnidhfkaaFmt
