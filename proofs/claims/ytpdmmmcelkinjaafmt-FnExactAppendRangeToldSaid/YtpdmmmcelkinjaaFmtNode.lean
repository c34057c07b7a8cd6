/- What the methods of a node and the thin functions over them compute, each once, and what memory they make. -/
import Derived.Test.YtpdmmmcelkinjaaFmtRows
import Derived.WalkKit
import Derived.ProofKit
import Derived.Deep.QuietTactic
import Derived.BigQuiet
import Derived.Laws.Bits64
import Derived.Laws.BitsAllLaws
import Derived.Below
import Derived.Laws.OwnMore
import Derived.Deep.Draws
import Derived.Laws.Rows
import Derived.Maps.AppendAt
namespace Go.Proofs.YtpdmmmcelkinjaaFmt
open Go.ChangeShapes Go.WideShapes Go.ChangeAt Go.RowKit

/-- What a call leaves below the blocks that were there. -/
theorem bcell {W w1 : World} (hb : Below W.heap.size W w1) : (∀ b o, b < W.heap.size → w1.cell? ⟨b, o, none⟩ = W.cell? ⟨b, o, none⟩) ∧ (∀ b o, b < W.heap.size → w1.frozen? ⟨b, o, none⟩ = W.frozen? ⟨b, o, none⟩) ∧ W.heap.size ≤ w1.heap.size :=
  ⟨fun b o h => hb.cell (p := ⟨b, o, none⟩) h, fun b o h => hb.frozen (p := ⟨b, o, none⟩) h, hb.size⟩
theorem below_drewN {B : Nat} {a w : World} (h : Below B a w) (n : Nat) : Below B a (w.drewN n) := ⟨h.os, h.tape, h.output, h.size, h.block⟩

theorem newNode_c (a0 a1 : Int) (w : World) :
    Calls Tryf.prog 50 #[.int .u64 a0, .int .u64 a1] w fun e w' => e = .returned ((.agg #[.int .u64 a0, .int .u64 a1])) ∧ w.alloc (.cells #[.int .u64 a0, .int .u64 a1] 70) = w' := by
  go_enter Tryf.func50, Tryf.ntmps50
  go_wp2
  exact bodyPost_ret (v := (.agg #[.int .u64 a0, .int .u64 a1])) (by simp [results, Tryf.results50, go_sem]) rfl ⟨rfl, rfl⟩

theorem parent_c (a0 a1 : Int) (w : World) :
    Calls Tryf.prog 48 #[(.agg #[.int .u64 a0, .int .u64 a1])] w fun e w' => e = .returned ((.agg #[.int .u64 (IntKind.u64.wrap (a0 + 1)), .int .u64 (a1 / 2)])) ∧
      ((w.alloc (.cells #[.int .u64 a0, .int .u64 a1] 70)).alloc (.cells #[.int .u64 (IntKind.u64.wrap (a0 + 1)), .int .u64 (a1 / 2)] 70)).alloc (.cells #[.int .u64 (IntKind.u64.wrap (a0 + 1)), .int .u64 (a1 / 2)] 70) = w' := by
  go_enter Tryf.func48, Tryf.ntmps48
  go_wp2_with (go_at_call 50; refine (newNode_c _ _ _).mono ?_; rintro e w' ⟨rfl, rfl⟩)
  exact bodyPost_ret (v := (.agg #[.int .u64 (IntKind.u64.wrap (a0 + 1)), .int .u64 (a1 / 2)])) (by simp [results, Tryf.results48, go_sem]) rfl ⟨rfl, rfl⟩
theorem implParent (a0 a1 : Int) (w : World) :
    Calls Tryf.prog 32 #[(.agg #[.int .u64 a0, .int .u64 a1])] w fun e w' => e = .returned ((.agg #[.int .u64 (IntKind.u64.wrap (a0 + 1)), .int .u64 (a1 / 2)])) ∧ Below w.heap.size w w' := by
  go_enter Tryf.func32, Tryf.ntmps32
  go_wp2_with (go_at_call 48; refine (parent_c _ _ _).mono ?_; rintro e w' ⟨rfl, rfl⟩)
  refine bodyPost_ret (v := (.agg #[.int .u64 (IntKind.u64.wrap (a0 + 1)), .int .u64 (a1 / 2)])) (by simp [results, Tryf.results32, go_sem]) rfl ⟨rfl, ?_⟩
  repeat (first | exact Below.refl _ _ | refine Below.alloc ?_ ?_ _)
  all_goals (simp <;> omega)
theorem coverage_c (a0 a1 : Int) (h0 : 0 ≤ a0) (h1 : a0 ≤ 63) (w : World) :
    Calls Tryf.prog 34 #[(.agg #[.int .u64 a0, .int .u64 a1])] w fun e w' => e = .returned (.tuple #[.int .u64 (IntKind.u64.wrap (a1 * 2 ^ a0.toNat)), .int .u64 (IntKind.u64.wrap (IntKind.u64.wrap (a1 + 1) * 2 ^ a0.toNat))]) ∧ Below w.heap.size w w' := by
  go_enter Tryf.func34, Tryf.ntmps34
  go_wp2
  go_quiet (fail)
  go_wp2
  go_ret2
  exact ⟨rfl, below_drewN ((Below.refl _ _).alloc (Nat.le_refl _) _) _⟩
theorem implCoverage (a0 a1 : Int) (h0 : 0 ≤ a0) (h1 : a0 ≤ 63) (w : World) :
    Calls Tryf.prog 25 #[(.agg #[.int .u64 a0, .int .u64 a1])] w fun e w' => e = .returned (.tuple #[.int .u64 (IntKind.u64.wrap (a1 * 2 ^ a0.toNat)), .int .u64 (IntKind.u64.wrap (IntKind.u64.wrap (a1 + 1) * 2 ^ a0.toNat))]) ∧ Below w.heap.size w w' := by
  go_enter Tryf.func25, Tryf.ntmps25
  go_wp2_with (go_at_call 34; refine (coverage_c _ _ h0 h1 _).mono ?_; rintro e w' ⟨rfl, hb⟩)
  go_ret2
  exact ⟨rfl, ((Below.refl _ _).alloc (Nat.le_refl _) _).trans (hb.mono (by simp))⟩
end Go.Proofs.YtpdmmmcelkinjaaFmt
/- The small check 'works' of the statements answers true. -/
namespace Go.Proofs.YtpdmmmcelkinjaaFmt
open Go.ChangeShapes Go.WideShapes Go.ChangeAt Go.RowKit
theorem works_c (w : World) : Calls Tryf.prog 21 #[] w fun e w' => e = .returned (.bool true) ∧ Below w.heap.size w w' := by
  have h1 : IntKind.u64.wrap (2 + 1) = 3 := by decide
  have h2 : IntKind.u64.wrap 3 = 3 := by decide
  go_enter Tryf.func21, Tryf.ntmps21
  go_wp2_with (go_at_call 32; refine (implParent _ _ _).mono ?_; rintro e w' ⟨rfl, hb⟩)
  go_ret
  exact ⟨rfl, by assumption⟩
end Go.Proofs.YtpdmmmcelkinjaaFmt
/- Blocks that are known whole. -/
namespace Go.Proofs.YtpdmmmcelkinjaaFmt
open Go.ChangeShapes Go.WideShapes Go.ChangeAt Go.RowKit
def Blk (w : World) (g : Nat) (t : TypeId) (cs : Array Value) : Prop := w.heap[g]? = some (.cells cs t (0, 0))
section
variable {w w' : World} {g : Nat} {t : TypeId} {cs : Array Value}
theorem Blk.lt (h : Blk w g t cs) : g < w.heap.size := by
  rcases Nat.lt_or_ge g w.heap.size with hlt | hge
  · exact hlt
  · unfold Blk at h; rw [Array.getElem?_eq_none hge] at h; cases h
theorem Blk.cell (h : Blk w g t cs) (i : Nat) : w.cell? ⟨g, i, none⟩ = cs[i]? := cell_of_row w g i cs t (0, 0) h
theorem Blk.frozen (h : Blk w g t cs) (i : Nat) : w.frozen? ⟨g, i, none⟩ = false := by
  unfold Blk at h
  simp [World.frozen?, h]
theorem Blk.new (w : World) (t : TypeId) (cs : Array Value) : Blk (w.alloc (.cells cs t)) w.heap.size t cs := heap_alloc_new w _
theorem Blk.new' (w : World) (t : TypeId) (cs : Array Value) {g : Nat} (h : g = w.heap.size) : Blk (w.alloc (.cells cs t)) g t cs := by subst h; exact heap_alloc_new w _
theorem Blk.drew (h : Blk w g t cs) : Blk w.drew g t cs := h
theorem Blk.drewN (h : Blk w g t cs) (n : Nat) : Blk (w.drewN n) g t cs := h
theorem Blk.alloc (h : Blk w g t cs) (o : Obj) : Blk (w.alloc o) g t cs := (Below.heap_alloc w o g h.lt).trans h
theorem Blk.set_ (h : Blk w g t cs) (i : Nat) (u : Value) : Blk (w.setCell ⟨g, i, none⟩ u) g t (cs.setIfInBounds i u) := by
  unfold Blk at h ⊢
  simp [World.setCell, Array.getElem?_modify, h]
theorem Blk.far (h : Blk w g t cs) {p : Addr} (hp : g ≠ p.block) (u : Value) : Blk (w.setCell p u) g t cs := (Below.heap_setCell w p u g hp).trans h
theorem Blk.below {B : Nat} (h : Blk w g t cs) (hb : Below B w w') (hg : g < B) : Blk w' g t cs := (hb.block g hg).trans h
theorem Blk.below' (h : Blk w g t cs) (hb : Below w.heap.size w w') : Blk w' g t cs := (hb.block g h.lt).trans h
theorem Blk.grown {row : Option Nat} (h : Blk w g t cs) (hb : w.grownBy w' row) (hg : some g ≠ row) : Blk w' g t cs := (hb.block g h.lt hg).trans h
theorem Blk.ne_ {g' : Nat} {t' : TypeId} {cs' : Array Value} (h : Blk w g t cs) (h' : Blk w g' t' cs') (hne : t ≠ t') : g ≠ g' := by
  rintro rfl
  unfold Blk at h h'
  rw [h] at h'
  injection h' with h'
  injection h' with _ ht
  exact hne ht
/-- Two cells of a block. -/
theorem Blk.two {a b : Value} (h : Blk w g t #[a, b]) : w.cell? ⟨g, 0, none⟩ = some a ∧ w.cell? ⟨g, 1, none⟩ = some b ∧ w.frozen? ⟨g, 0, none⟩ = false ∧ w.frozen? ⟨g, 1, none⟩ = false := ⟨h.cell 0, h.cell 1, h.frozen 0, h.frozen 1⟩
theorem Blk.one {a : Value} (h : Blk w g t #[a]) : w.cell? ⟨g, 0, none⟩ = some a ∧ w.frozen? ⟨g, 0, none⟩ = false := ⟨h.cell 0, h.frozen 0⟩
theorem Blk.three {a b c : Value} (h : Blk w g t #[a, b, c]) : w.cell? ⟨g, 0, none⟩ = some a ∧ w.cell? ⟨g, 1, none⟩ = some b ∧ w.cell? ⟨g, 2, none⟩ = some c ∧ w.frozen? ⟨g, 0, none⟩ = false ∧ w.frozen? ⟨g, 1, none⟩ = false ∧ w.frozen? ⟨g, 2, none⟩ = false := ⟨h.cell 0, h.cell 1, h.cell 2, h.frozen 0, h.frozen 1, h.frozen 2⟩
theorem Blk.five {a b c d e : Value} (h : Blk w g t #[a, b, c, d, e]) : w.cell? ⟨g, 0, none⟩ = some a ∧ w.cell? ⟨g, 1, none⟩ = some b ∧ w.cell? ⟨g, 2, none⟩ = some c ∧ w.cell? ⟨g, 3, none⟩ = some d ∧ w.cell? ⟨g, 4, none⟩ = some e ∧
    w.frozen? ⟨g, 0, none⟩ = false ∧ w.frozen? ⟨g, 1, none⟩ = false ∧ w.frozen? ⟨g, 2, none⟩ = false ∧ w.frozen? ⟨g, 3, none⟩ = false ∧ w.frozen? ⟨g, 4, none⟩ = false := ⟨h.cell 0, h.cell 1, h.cell 2, h.cell 3, h.cell 4, h.frozen 0, h.frozen 1, h.frozen 2, h.frozen 3, h.frozen 4⟩
end
end Go.Proofs.YtpdmmmcelkinjaaFmt
