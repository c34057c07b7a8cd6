/- What a law's frame hands to its walk: the bounds of a number, the two fields of a node. -/
import Derived.Test.YtpdmmmcelkinjaaFmtRows
import Derived.WalkKit
import Derived.ProofKit
import Derived.OpenShut
import Derived.ChangeOld
import Derived.Below
import Derived.Lib.SmallJoins
import Derived.Test.YtpdmmmcelkinjaaFmtChecked
import GoSem.ClaimOpen
import GoSem.ClaimOpenFrom
import GoSem.ClaimJoined
import GoSem.ClaimWrapper
import Derived.KernelRfl
import Derived.Test.YtpdmmmcelkinjaaFmtCards
import Derived.Test.YtpdmmmcelkinjaaFmtTie
import Derived.Test.YtpdmmmcelkinjaaFmtHashes
import Derived.Deep.Matrix
import Derived.Test.YtpdmmmcelkinjaaFmtTz
import Derived.Deep.DeepWitnessRowRef
import Derived.Stop.JoinedAt
import Derived.Stop.JoinedTold
import Derived.SevenTiedAt
import Derived.Lib.LaidTab
namespace Go.Proofs.YtpdmmmcelkinjaaFmt
open Go.ChangeShapes Go.WideShapes Go.ChangeAt Go.RowKit Go.Joins
set_option maxRecDepth 100000

theorem own : ownKnob Tryf.prog.godebug = none := by kernel_rfl
theorem laidOut : laidOutB Tryf.prog = true := by kernel_rfl
theorem bound_u64 {a : Int} (h : (Lit.int .u64 a).wf = true) : 0 ≤ a ∧ a < 18446744073709551616 := by
  have := bounds_u64 h
  omega
theorem cellsNode : Tryf.prog.cellsOf 45 = 2 := by kernel_rfl
theorem openNode {H : Type} {enc : TypeId × Value → H} {w : World} {base : Nat} {b0 : Nat} {r : Reach} {spare : Nat → Bool} {held : Bool} {v : Value} {d : DataW H} {p : List MemPlace}
    (hv : Value.okWide Tryf.prog w r b0 45 v) (h : DataW.Trod enc Tryf.prog w base spare held 45 v d p) :
    ∃ a b : Int, v = .agg #[.int .u64 a, .int .u64 b] ∧ 0 ≤ a ∧ a < 18446744073709551616 ∧ 0 ≤ b ∧ b < 18446744073709551616 := by
  obtain ⟨v0, v1, y0, y1, n, rfl, rfl, rfl, hy0, hy1⟩ := open_agg2 Tryf.underlying45 (by kernel_rfl) cellsNode hv h
  obtain ⟨a, e0, rfl, wa⟩ := DataW.trod_int Tryf.underlying43 hy0
  obtain ⟨b, e1, rfl, wb⟩ := DataW.trod_int Tryf.underlying27 hy1
  simp at e0 e1
  subst e0 e1
  have h0 := bound_u64 wa
  have h1 := bound_u64 wb
  exact ⟨a, b, rfl, h0.1, h0.2, h1.1, h1.2⟩
end Go.Proofs.YtpdmmmcelkinjaaFmt
/- The program may be entered: its head's words, read off letter by letter. -/
namespace Go.Proofs.YtpdmmmcelkinjaaFmt
open Go
theorem strip_none (w : List Char) (ws : List (List Char)) : ∀ os : List String, (os.all fun o => !(w == o.toList)) = true → stripLifts os (w :: ws) = ([], w :: ws)
  | [], _ => rfl
  | o :: os, h => by
    rw [List.all_cons, Bool.and_eq_true] at h
    have h1 : (w == o.toList) = false := by simpa using h.1
    rw [stripLifts, h1]
    exact strip_none w ws os h.2
theorem mayEnter_of {P : Program} (h : (behindMainWord (wordsSigns P.initOrder.toList)).head? = some "cut".toList) (hl : P.laysLater = false) (hb : P.bearsReflect = false) (hd : P.doorFits [] = true) : P.mayEnter = true := by
  unfold Program.mayEnter
  generalize behindMainWord (wordsSigns P.initOrder.toList) = L at h
  match L, h with
  | c :: rest, h =>
    have hc : c = "cut".toList := by simpa using h
    subst hc
    have hs : stripLifts liftWords ("cut".toList :: rest) = ([], "cut".toList :: rest) := strip_none _ _ _ (by decide +kernel)
    simp only [hs]
    simp [hl, hb, hd]
/-- The signs of the head's row. -/
def headSigns : List Nat := [104, 97, 114, 110, 101, 115, 115, 32, 53, 57, 97, 50, 102, 50, 99, 51, 54, 101, 51, 54, 53, 99, 57, 101, 57, 56, 100, 99, 49, 57, 48, 50, 52, 101, 56, 51, 57, 100, 99, 56, 99, 52, 99, 49, 54, 51, 99, 55, 56, 50, 55, 57, 57, 102, 56, 50, 101, 98, 97, 55, 100, 102, 56, 57, 53, 100, 101, 52, 53, 48, 53, 98, 32, 99, 117, 116, 32, 97, 116, 32, 108, 111, 111, 112, 46, 101, 120, 97, 109, 112, 108, 101, 47, 112, 117, 98, 45, 108, 111, 103, 112, 114, 111, 111, 102, 115, 47, 108, 97, 119, 115, 46, 70, 110, 78, 101, 119, 82, 97, 110, 103, 101, 82, 111, 111, 116, 32, 108, 111, 111, 112, 46, 101, 120, 97, 109, 112, 108, 101, 47, 112, 117, 98, 45, 108, 111, 103, 112, 114, 111, 111, 102, 115, 47, 108, 97, 119, 115, 46, 70, 110, 69, 120, 97, 99, 116, 78, 101, 119, 82, 97, 110, 103, 101, 32, 108, 111, 111, 112, 46, 101, 120, 97, 109, 112, 108, 101, 47, 112, 117, 98, 45, 108, 111, 103, 112, 114, 111, 111, 102, 115, 47, 108, 97, 119, 115, 46, 70, 110, 65, 112, 112, 101, 110, 100, 69, 100, 103, 101, 65, 108, 108, 32, 108, 111, 111, 112, 46, 101, 120, 97, 109, 112, 108, 101, 47, 112, 117, 98, 45, 108, 111, 103, 112, 114, 111, 111, 102, 115, 47, 108, 97, 119, 115, 46, 70, 110, 65, 112, 112, 101, 110, 100, 82, 111, 111, 116, 32, 108, 111, 111, 112, 46, 101, 120, 97, 109, 112, 108, 101, 47, 112, 117, 98, 45, 108, 111, 103, 112, 114, 111, 111, 102, 115, 47, 108, 97, 119, 115, 46, 70, 110, 65, 112, 112, 101, 110, 100, 71, 114, 111, 119, 110, 32, 108, 111, 111, 112, 46, 101, 120, 97, 109, 112, 108, 101, 47, 112, 117, 98, 45, 108, 111, 103, 112, 114, 111, 111, 102, 115, 47, 108, 97, 119, 115, 46, 70, 110, 65, 112, 112, 101, 110, 100, 78, 111, 82, 111, 111, 116, 32, 108, 111, 111, 112, 46, 101, 120, 97, 109, 112, 108, 101, 47, 112, 117, 98, 45, 108, 111, 103, 112, 114, 111, 111, 102, 115, 47, 108, 97, 119, 115, 46, 70, 110, 69, 120, 97, 99, 116, 65, 112, 112, 101, 110, 100, 32, 108, 111, 111, 112, 46, 101, 120, 97, 109, 112, 108, 101, 47, 112, 117, 98, 45, 108, 111, 103, 112, 114, 111, 111, 102, 115, 47, 108, 97, 119, 115, 46, 70, 110, 65, 112, 112, 101, 110, 100, 69, 100, 103, 101, 32, 108, 111, 111, 112, 46, 101, 120, 97, 109, 112, 108, 101, 47, 112, 117, 98, 45, 108, 111, 103, 112, 114, 111, 111, 102, 115, 47, 108, 97, 119, 115, 46, 70, 110, 65, 112, 112, 101, 110, 100, 82, 97, 110, 103, 101, 71, 114, 111, 119, 110, 32, 108, 111, 111, 112, 46, 101, 120, 97, 109, 112, 108, 101, 47, 112, 117, 98, 45, 108, 111, 103, 112, 114, 111, 111, 102, 115, 47, 108, 97, 119, 115, 46, 70, 110, 69, 120, 97, 99, 116, 65, 112, 112, 101, 110, 100, 82, 97, 110, 103, 101, 32, 108, 111, 111, 112, 46, 101, 120, 97, 109, 112, 108, 101, 47, 112, 117, 98, 45, 108, 111, 103, 112, 114, 111, 111, 102, 115, 47, 108, 97, 119, 115, 46, 70, 110, 65, 112, 112, 101, 110, 100, 77, 97, 107, 101, 114, 32, 115, 116, 111, 112, 32, 102, 109, 116, 46, 101, 114, 114, 111, 114, 102]
theorem initSigns : Tryf.prog.initOrder = String.ofList (headSigns.map Char.ofNat) := by kernel_rfl
theorem initList : Tryf.prog.initOrder.toList = headSigns.map Char.ofNat := by rw [initSigns]; exact String.toList_ofList
theorem headWord : (behindMainWord (wordsSigns (headSigns.map Char.ofNat))).head? = some "cut".toList := by kernel_rfl
theorem mayEnter : Tryf.prog.mayEnter = true := mayEnter_of (by rw [initList]; exact headWord) (by kernel_rfl) (by kernel_rfl) (by kernel_rfl)
theorem mainIs_of {P : Program} {w : String} {b : Bool} {s : List Char} (hw : w = "harness" ∧ b = true ∨ w = "ownmain" ∧ b = false) (h : (wordsSigns P.initOrder.toList).take 2 = [w.toList, s]) (hs : isSumSigns s = true) : P.mainIs = some (b, s) := by
  unfold Program.mainIs
  generalize wordsSigns P.initOrder.toList = L at h
  match L, h with
  | x :: y :: rest, h =>
    obtain ⟨rfl, rfl⟩ : x = w.toList ∧ y = s := by simpa using h
    rcases hw with ⟨rfl, rfl⟩ | ⟨rfl, rfl⟩
    · simp [hs]
    · simp [hs]
theorem headLifts_of {P : Program} (h : (behindMainWord (wordsSigns P.initOrder.toList)).head? = some "cut".toList) : P.headLifts = [] := by
  unfold Program.headLifts
  generalize behindMainWord (wordsSigns P.initOrder.toList) = L at h
  match L, h with
  | c :: rest, h =>
    have hc : c = "cut".toList := by simpa using h
    subst hc
    have hs : stripLifts liftWords ("cut".toList :: rest) = ([], "cut".toList :: rest) := strip_none _ _ _ (by decide +kernel)
    simp only [hs]
    simp
theorem make_of {P : Program} (h : (behindMainWord (wordsSigns P.initOrder.toList)).head? = some "cut".toList) : P.make = some .cut := by
  unfold Program.make
  generalize behindMainWord (wordsSigns P.initOrder.toList) = L at h
  match L, h with
  | c :: rest, h =>
    have hc : c = "cut".toList := by simpa using h
    subst hc
    simp
theorem liftsFinal_of {P : Program} (h : (behindMainWord (wordsSigns P.initOrder.toList)).head? = some "cut".toList) : P.liftsFinal = false := by
  unfold Program.liftsFinal
  rw [headLifts_of h]
  generalize behindMainWord (wordsSigns P.initOrder.toList) = L at h
  match L, h with
  | c :: rest, h =>
    have hc : c = "cut".toList := by simpa using h
    subst hc
    simp
theorem headTwo : (wordsSigns (headSigns.map Char.ofNat)).take 2 = ["harness".toList, "59a2f2c36e365c9e98dc19024e839dc8c4c163c782799f82eba7df895de4505b".toList] := by kernel_rfl
theorem sumOk : isSumSigns "59a2f2c36e365c9e98dc19024e839dc8c4c163c782799f82eba7df895de4505b".toList = true := by kernel_rfl
theorem mainIs : Tryf.prog.mainIs = some (true, "59a2f2c36e365c9e98dc19024e839dc8c4c163c782799f82eba7df895de4505b".toList) := mainIs_of (w := "harness") (by decide +kernel) (by rw [initList]; exact headTwo) sumOk
theorem make : Tryf.prog.make = some .cut := make_of (by rw [initList]; exact headWord)
theorem liftsFinal : Tryf.prog.liftsFinal = false := liftsFinal_of (by rw [initList]; exact headWord)
end Go.Proofs.YtpdmmmcelkinjaaFmt
/- The table of math/bits as a told row lists it; a world that holds it; what the builder of a told and tied card asks of the program. -/
namespace Go.Proofs.YtpdmmmcelkinjaaFmt
open Go.ChangeShapes Go.WideShapes Go.ChangeAt Go.RowKit

theorem gTab : Tryf.prog.globalNamed "math/bits.deBruijn64tab" = some 0 := by kernel_rfl
theorem gTabType : (Tryf.prog.globals[0]?).map (·.type) = some 101 := by kernel_rfl
theorem cellsTab : Tryf.prog.cellsOf 101 = 64 := by kernel_rfl
theorem cellsU8 : Tryf.prog.cellsOf 5 = 1 := by kernel_rfl
theorem tab_of {W : World} (h : laidMetH Tryf.prog [("math/bits.deBruijn64tab", Rows.laid_math_bits_deBruijn64tab)] W) : Tab W := by
  have ht : Lib.TabIs Tryf.prog W "math/bits.deBruijn64tab" .u8 (Lib.deBruijn64tab.map fun n => Int.ofNat n) :=
    Lib.tabIs_of_head (rest := []) gTab gTabType Tryf.underlying101 Tryf.underlying5 cellsU8 cellsTab h
  intro j hj
  have := ht.cell gTab j (by rw [List.length_map]; exact hj)
  rw [this]
  have e : (Lib.deBruijn64tab.map fun n => Int.ofNat n).getD j 0 = ((Lib.deBruijn64tab.getD j 0 : Nat) : Int) := by
    have hl : j < Lib.deBruijn64tab.length := hj
    simp [List.getD, hl]
  rw [e]
def LaidIs (W : World) : Prop := Tab W
theorem laidIs_of {W : World} (h : laidMetH Tryf.prog [("math/bits.deBruijn64tab", Rows.laid_math_bits_deBruijn64tab)] W) : LaidIs W := tab_of h
/-- A world for the witness: the settled one, the table holding what its initialiser lays. -/
noncomputable def laidWorld (os : Os) : World :=
  { World.holding Tryf.prog os ⟨#[], #[], []⟩ with heap := (World.holding Tryf.prog os ⟨#[], #[], []⟩).heap.modify 0 fun
      | .cells _ t frozen => .cells #[.int .u8 0, .int .u8 1, .int .u8 56, .int .u8 2, .int .u8 57, .int .u8 49, .int .u8 28, .int .u8 3, .int .u8 61, .int .u8 58, .int .u8 42, .int .u8 50, .int .u8 38, .int .u8 29, .int .u8 17, .int .u8 4, .int .u8 62, .int .u8 47, .int .u8 59, .int .u8 36, .int .u8 45, .int .u8 43, .int .u8 51, .int .u8 22, .int .u8 53, .int .u8 39, .int .u8 33, .int .u8 30, .int .u8 24, .int .u8 18, .int .u8 12, .int .u8 5, .int .u8 63, .int .u8 55, .int .u8 48, .int .u8 27, .int .u8 60, .int .u8 41, .int .u8 37, .int .u8 16, .int .u8 46, .int .u8 35, .int .u8 44, .int .u8 21, .int .u8 52, .int .u8 32, .int .u8 23, .int .u8 11, .int .u8 54, .int .u8 26, .int .u8 40, .int .u8 15, .int .u8 34, .int .u8 20, .int .u8 31, .int .u8 10, .int .u8 25, .int .u8 14, .int .u8 19, .int .u8 9, .int .u8 13, .int .u8 8, .int .u8 7, .int .u8 6] t frozen
      | o => o }
theorem laid_met (os : Os) (args : Array Value) : laidMetH Tryf.prog [("math/bits.deBruijn64tab", Rows.laid_math_bits_deBruijn64tab)] ((laidWorld os).forCall (fun _ _ => 0) ⟨#[], args, []⟩).memory :=
  laidMet_of_run' 8 (by kernel_rfl) (by kernel_rfl)
theorem stopsAre : Tryf.pinned.checked.prog.stops = ["fmt.errorf"] := by kernel_rfl
theorem stopKnobs : Tryf.pinned.checked.prog.stopKnobs = [] := by kernel_rfl
theorem quiet (os : Os) : Stop.quiet Tryf.pinned.checked.prog os := by
  intro k hk
  rw [stopKnobs] at hk
  cases hk
end Go.Proofs.YtpdmmmcelkinjaaFmt
/- What a law's frame hands to its walk: a hash function, bytes, a list of hashes. -/
namespace Go.Proofs.YtpdmmmcelkinjaaFmt
open Go.ChangeShapes Go.WideShapes Go.ChangeAt Go.RowKit Go.Joins Go.Deep
set_option maxRecDepth 100000
theorem slot_noneH {w : World} {g o : Nat} {s : Option Nat} {v : Value} (h : w.cell? ((⟨g, o, s⟩ : Addr).add 0) = some v) : s = none := by
  simpa [Addr.add] using World.cell?_spot h
theorem add_plainH (g o k : Nat) : (⟨g, o, none⟩ : Addr).add k = ⟨g, o + k, none⟩ := by unfold Addr.add; split <;> simp_all
theorem bound_u32 {a : Int} (h : (Lit.int .u32 a).wf = true) : 0 ≤ a ∧ a < 4294967296 := by
  simp [Lit.wf, go_sem] at h
  have e1 : IntKind.u32.min = 0 := rfl
  have e2 : IntKind.u32.max = 4294967295 := rfl
  omega
theorem bound_u8 {a : Int} (h : (Lit.int .u8 a).wf = true) : 0 ≤ a ∧ a < 256 := by
  simp [Lit.wf, go_sem] at h
  have e1 : IntKind.u8.min = 0 := rfl
  have e2 : IntKind.u8.max = 255 := rfl
  omega
theorem cellsHash : Tryf.prog.cellsOf 24 = 3 := by kernel_rfl
theorem cellsBytes : Tryf.prog.cellsOf 28 = 1 := by kernel_rfl
theorem cellsByte : Tryf.prog.cellsOf 5 = 1 := by kernel_rfl
theorem openHash {H : Type} {enc : TypeId × Value → H} {w : World} {base : Nat} {b0 : Nat} {r : Reach} {spare : Nat → Bool} {held : Bool} {v : Value} {d : DataW H} {p : List MemPlace}
    (hv : Value.okWide Tryf.prog w r b0 24 v) (h : DataW.Trod enc Tryf.prog w base spare held 24 v d p) : ∃ h : Pl.HF, v = hashV h ∧ h.ok := by
  obtain ⟨v0, v1, v2, y0, y1, y2, n, rfl, rfl, rfl, hy0, hy1, hy2⟩ := open_agg3 Tryf.underlying24 (by kernel_rfl) cellsHash hv h
  obtain ⟨a, e0, rfl, wa⟩ := DataW.trod_int Tryf.underlying22 hy0
  obtain ⟨b, e1, rfl, wb⟩ := DataW.trod_int Tryf.underlying22 hy1
  obtain ⟨c, e2, rfl, wc⟩ := DataW.trod_int Tryf.underlying22 hy2
  simp at e0 e1 e2
  subst e0 e1 e2
  have h0 := bound_u32 wa
  have h1 := bound_u32 wb
  have h2 := bound_u32 wc
  obtain ⟨A, rfl⟩ := Int.eq_ofNat_of_zero_le h0.1
  obtain ⟨B, rfl⟩ := Int.eq_ofNat_of_zero_le h1.1
  obtain ⟨C, rfl⟩ := Int.eq_ofNat_of_zero_le h2.1
  exact ⟨⟨A, B, C⟩, rfl, by unfold Pl.HF.ok; simp only []; omega⟩
/-- Bytes out of what a frame's opener tells of their cells. -/
theorem bytes_of {w : World} {A : Option Addr} {L C : Nat} {Z : List Int} (hLC : L ≤ C) (hZ : Z.length = C ∨ Z.length = L) (hw : ∀ n ∈ Z, (Lit.int .u8 n).wf = true) (hA : A = none → C = 0) (hat : ∀ a, A = some a → ∀ c, c < L → w.cell? (a.add c) = some (.int .u8 (Z.getD c 0))) :
    BytesR w (.slice A L C) ((Z.take L).map Int.toNat) := by
  have hl : ((Z.take L).map Int.toNat).length = L := by simp; omega
  refine ⟨A, C, by rw [hl], by rw [hl]; exact hLC, fun x hx => ?_, fun h0 => ?_⟩
  · obtain ⟨z, hz, rfl⟩ := List.mem_map.1 hx
    have := bound_u8 (hw z (List.mem_of_mem_take hz))
    omega
  · rw [hl] at h0
    cases A with
    | none => have := hA rfl; omega
    | some a =>
      obtain ⟨g, o, s⟩ := a
      obtain rfl := slot_noneH (hat _ rfl 0 h0)
      refine ⟨g, o, rfl, fun k hk => ?_⟩
      rw [hl] at hk
      have h1 := hat _ rfl k hk
      rw [add_plainH] at h1
      rw [h1]
      have hk2 : k < Z.length := by omega
      have h2 := bound_u8 (hw Z[k] (List.getElem_mem hk2))
      simp [List.getD_eq_getElem?_getD, List.getElem?_eq_getElem hk2]
      omega
theorem openBytes {H : Type} {enc : TypeId × Value → H} {w : World} {base : Nat} {b0 : Nat} {r : Reach} {held : Bool} {v : Value} {d : DataW H} {p : List MemPlace}
    (hv : Value.okWide Tryf.prog w r b0 28 v) (h : DataW.Trod enc Tryf.prog w base (fun _ => true) held 28 v d p) : ∃ l, BytesR w v l := by
  obtain ⟨a0, l0, c0, rfl⟩ := okWide_slice Tryf.underlying28 hv
  obtain ⟨fuel, hf⟩ := h
  rcases open_ints Tryf.underlying28 Tryf.underlying5 cellsByte hf with ⟨hcs, _⟩ | ⟨a, len, cap, zs, hcs, hb, hl, hm, hz, hx, hat, hw⟩
  · simp [Value.cells] at hcs
    obtain ⟨rfl, rfl, rfl⟩ := hcs
    exact ⟨[], none, 0, rfl, Nat.le_refl _, fun x hx => by simp at hx, fun h => by simp at h⟩
  · simp [Value.cells] at hcs
    obtain ⟨rfl, rfl, rfl⟩ := hcs
    simp only [if_true] at hz
    exact ⟨_, bytes_of hl (.inl hz) hw (fun e => by cases e) (fun a' e c hc => by injection e with e; subst e; exact hat c (by omega))⟩
theorem openHashes {H : Type} {enc : TypeId × Value → H} {w : World} {base : Nat} {b0 : Nat} {r : Reach} {held : Bool} {v : Value} {d : DataW H} {p : List MemPlace}
    (hv : Value.okWide Tryf.prog w r b0 25 v) (h : DataW.Trod enc Tryf.prog w base (fun _ => true) held 25 v d p) : ∃ L, HashesR w v L := by
  obtain ⟨a0, l0, c0, rfl⟩ := okWide_slice Tryf.underlying25 hv
  obtain ⟨fuel, hf⟩ := h
  rcases open_int_rows Tryf.underlying25 Tryf.underlying28 Tryf.underlying5 cellsBytes cellsByte hf with ⟨hcs, _⟩ | ⟨a, len, cap, A, L, C, Z, hcs, hb, hl, hm, _, hat⟩
  · simp [Value.cells] at hcs
    obtain ⟨rfl, rfl, rfl⟩ := hcs
    exact ⟨[], none, 0, rfl, Nat.le_refl _, fun x hx => by simp at hx, fun h => by simp at h⟩
  · simp [Value.cells] at hcs
    obtain ⟨rfl, rfl, rfl⟩ := hcs
    have each : ∀ k, k < l0 → w.cell? (a.add k) = some (.slice (A k) (L k) (C k)) ∧ BytesR w (.slice (A k) (L k) (C k)) (((Z k).take (L k)).map Int.toNat) := fun k hk => by
      obtain ⟨h1, h2, h3, h4, h5, h6, h7⟩ := hat k (by omega)
      exact ⟨h1, bytes_of h2 (.inl h4) h5 h6 (fun a' e c hc => (h7 a' e).2 c (by omega))⟩
    have hlen : ((List.range l0).map fun k => ((Z k).take (L k)).map Int.toNat).length = l0 := by simp
    refine ⟨(List.range l0).map fun k => ((Z k).take (L k)).map Int.toNat, some a, c0, by rw [hlen], by rw [hlen]; exact hl, fun x hx => ?_, fun h0 => ?_⟩
    · obtain ⟨k, hk, rfl⟩ := List.mem_map.1 hx
      exact (each k (List.mem_range.1 hk)).2.bytes
    · rw [hlen] at h0
      obtain ⟨g, o, s⟩ := a
      obtain rfl := slot_noneH (each 0 h0).1
      refine ⟨g, o, rfl, fun k hk => ?_⟩
      rw [hlen] at hk
      have h1 := each k hk
      rw [add_plainH] at h1
      exact ⟨_, h1.1, by simpa using h1.2⟩
end Go.Proofs.YtpdmmmcelkinjaaFmt
/- The rows that list both the table of math/bits and errors.errorType: a world that holds them. -/
namespace Go.Proofs.YtpdmmmcelkinjaaFmt
open Go.ChangeShapes Go.WideShapes Go.ChangeAt Go.RowKit

theorem bound_i64 {a : Int} (h : (Lit.int .i64 a).wf = true) : -9223372036854775808 ≤ a ∧ a ≤ 9223372036854775807 := by
  simp [Lit.wf, go_sem] at h
  have e1 : IntKind.i64.min = -9223372036854775808 := rfl
  have e2 : IntKind.i64.max = 9223372036854775807 := rfl
  omega
end Go.Proofs.YtpdmmmcelkinjaaFmt
