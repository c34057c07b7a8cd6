/- What the methods of a node and the thin functions over them compute, each once, and what memory they make. -/
import Derived.Test.YtobnmgnnidhfkaaFmtRows
import Derived.WalkKit
import Derived.ProofKit
import Derived.Deep.QuietTactic
import Derived.BigQuiet
import Derived.Laws.Bits64
import Derived.Laws.BitsAllLaws
namespace Go.Proofs.YtobnmgnnidhfkaaFmt
open Go.ChangeShapes Go.WideShapes Go.ChangeAt Go.RowKit

/-- What a call leaves below the blocks that were there. -/
theorem bcell {W w1 : World} (hb : Below W.heap.size W w1) : (∀ b o, b < W.heap.size → w1.cell? ⟨b, o, none⟩ = W.cell? ⟨b, o, none⟩) ∧ (∀ b o, b < W.heap.size → w1.frozen? ⟨b, o, none⟩ = W.frozen? ⟨b, o, none⟩) ∧ W.heap.size ≤ w1.heap.size :=
  ⟨fun b o h => hb.cell (p := ⟨b, o, none⟩) h, fun b o h => hb.frozen (p := ⟨b, o, none⟩) h, hb.size⟩
theorem below_drewN {B : Nat} {a w : World} (h : Below B a w) (n : Nat) : Below B a (w.drewN n) := ⟨h.os, h.tape, h.output, h.size, h.block⟩

theorem newNode_c (a0 a1 : Int) (w : World) :
    Calls Tryf.prog 60 #[.int .u64 a0, .int .u64 a1] w fun e w' => e = .returned ((.agg #[.int .u64 a0, .int .u64 a1])) ∧ w.alloc (.cells #[.int .u64 a0, .int .u64 a1] 60) = w' := by
  go_enter Tryf.func60, Tryf.ntmps60
  go_wp2
  exact bodyPost_ret (v := (.agg #[.int .u64 a0, .int .u64 a1])) (by simp [results, Tryf.results60, go_sem]) rfl ⟨rfl, rfl⟩

theorem parent_c (a0 a1 : Int) (w : World) :
    Calls Tryf.prog 63 #[(.agg #[.int .u64 a0, .int .u64 a1])] w fun e w' => e = .returned ((.agg #[.int .u64 (IntKind.u64.wrap (a0 + 1)), .int .u64 (a1 / 2)])) ∧
      ((w.alloc (.cells #[.int .u64 a0, .int .u64 a1] 60)).alloc (.cells #[.int .u64 (IntKind.u64.wrap (a0 + 1)), .int .u64 (a1 / 2)] 60)).alloc (.cells #[.int .u64 (IntKind.u64.wrap (a0 + 1)), .int .u64 (a1 / 2)] 60) = w' := by
  go_enter Tryf.func63, Tryf.ntmps63
  go_wp2_with (go_at_call 60; refine (newNode_c _ _ _).mono ?_; rintro e w' ⟨rfl, rfl⟩)
  exact bodyPost_ret (v := (.agg #[.int .u64 (IntKind.u64.wrap (a0 + 1)), .int .u64 (a1 / 2)])) (by simp [results, Tryf.results63, go_sem]) rfl ⟨rfl, rfl⟩
theorem sibling_c (a0 a1 : Int) (w : World) :
    Calls Tryf.prog 64 #[(.agg #[.int .u64 a0, .int .u64 a1])] w fun e w' => e = .returned ((.agg #[.int .u64 a0, .int .u64 (bits .xor .u64 a1 1)])) ∧
      ((w.alloc (.cells #[.int .u64 a0, .int .u64 a1] 60)).alloc (.cells #[.int .u64 a0, .int .u64 (bits .xor .u64 a1 1)] 60)).alloc (.cells #[.int .u64 a0, .int .u64 (bits .xor .u64 a1 1)] 60) = w' := by
  go_enter Tryf.func64, Tryf.ntmps64
  go_wp2_with (go_at_call 60; refine (newNode_c _ _ _).mono ?_; rintro e w' ⟨rfl, rfl⟩)
  exact bodyPost_ret (v := (.agg #[.int .u64 a0, .int .u64 (bits .xor .u64 a1 1)])) (by simp [results, Tryf.results64, go_sem]) rfl ⟨rfl, rfl⟩
theorem coverage_c (a0 a1 : Int) (h0 : 0 ≤ a0) (h1 : a0 ≤ 63) (w : World) :
    Calls Tryf.prog 61 #[(.agg #[.int .u64 a0, .int .u64 a1])] w fun e w' => e = .returned (.tuple #[.int .u64 (IntKind.u64.wrap (a1 * 2 ^ a0.toNat)), .int .u64 (IntKind.u64.wrap (IntKind.u64.wrap (a1 + 1) * 2 ^ a0.toNat))]) ∧ Below w.heap.size w w' := by
  go_enter Tryf.func61, Tryf.ntmps61
  go_wp2
  go_quiet (fail)
  go_wp2
  go_ret2
  exact ⟨rfl, below_drewN ((Below.refl _ _).alloc (Nat.le_refl _) _) _⟩
end Go.Proofs.YtobnmgnnidhfkaaFmt
