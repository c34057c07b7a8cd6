/- What the methods of a node and the thin functions over them compute, each once, and what memory they make. -/
import Derived.Test.YteilafhajhbdaaaFmtRows
import Derived.WalkKit
import Derived.ProofKit
import Derived.Deep.QuietTactic
import Derived.BigQuiet
import Derived.Laws.Bits64
import Derived.Laws.BitsAllLaws
namespace Go.Proofs.YteilafhajhbdaaaFmt
open Go.ChangeShapes Go.WideShapes Go.ChangeAt Go.RowKit

/-- What a call leaves below the blocks that were there. -/
theorem bcell {W w1 : World} (hb : Below W.heap.size W w1) : (∀ b o, b < W.heap.size → w1.cell? ⟨b, o, none⟩ = W.cell? ⟨b, o, none⟩) ∧ (∀ b o, b < W.heap.size → w1.frozen? ⟨b, o, none⟩ = W.frozen? ⟨b, o, none⟩) ∧ W.heap.size ≤ w1.heap.size :=
  ⟨fun b o h => hb.cell (p := ⟨b, o, none⟩) h, fun b o h => hb.frozen (p := ⟨b, o, none⟩) h, hb.size⟩
theorem below_drewN {B : Nat} {a w : World} (h : Below B a w) (n : Nat) : Below B a (w.drewN n) := ⟨h.os, h.tape, h.output, h.size, h.block⟩

theorem newNode_c (a0 a1 : Int) (w : World) :
    Calls Tryf.prog 52 #[.int .u64 a0, .int .u64 a1] w fun e w' => e = .returned ((.agg #[.int .u64 a0, .int .u64 a1])) ∧ w.alloc (.cells #[.int .u64 a0, .int .u64 a1] 57) = w' := by
  go_enter Tryf.func52, Tryf.ntmps52
  go_wp2
  exact bodyPost_ret (v := (.agg #[.int .u64 a0, .int .u64 a1])) (by simp [results, Tryf.results52, go_sem]) rfl ⟨rfl, rfl⟩

theorem parent_c (a0 a1 : Int) (w : World) :
    Calls Tryf.prog 55 #[(.agg #[.int .u64 a0, .int .u64 a1])] w fun e w' => e = .returned ((.agg #[.int .u64 (IntKind.u64.wrap (a0 + 1)), .int .u64 (a1 / 2)])) ∧
      ((w.alloc (.cells #[.int .u64 a0, .int .u64 a1] 57)).alloc (.cells #[.int .u64 (IntKind.u64.wrap (a0 + 1)), .int .u64 (a1 / 2)] 57)).alloc (.cells #[.int .u64 (IntKind.u64.wrap (a0 + 1)), .int .u64 (a1 / 2)] 57) = w' := by
  go_enter Tryf.func55, Tryf.ntmps55
  go_wp2_with (go_at_call 52; refine (newNode_c _ _ _).mono ?_; rintro e w' ⟨rfl, rfl⟩)
  exact bodyPost_ret (v := (.agg #[.int .u64 (IntKind.u64.wrap (a0 + 1)), .int .u64 (a1 / 2)])) (by simp [results, Tryf.results55, go_sem]) rfl ⟨rfl, rfl⟩
theorem sibling_c (a0 a1 : Int) (w : World) :
    Calls Tryf.prog 56 #[(.agg #[.int .u64 a0, .int .u64 a1])] w fun e w' => e = .returned ((.agg #[.int .u64 a0, .int .u64 (bits .xor .u64 a1 1)])) ∧
      ((w.alloc (.cells #[.int .u64 a0, .int .u64 a1] 57)).alloc (.cells #[.int .u64 a0, .int .u64 (bits .xor .u64 a1 1)] 57)).alloc (.cells #[.int .u64 a0, .int .u64 (bits .xor .u64 a1 1)] 57) = w' := by
  go_enter Tryf.func56, Tryf.ntmps56
  go_wp2_with (go_at_call 52; refine (newNode_c _ _ _).mono ?_; rintro e w' ⟨rfl, rfl⟩)
  exact bodyPost_ret (v := (.agg #[.int .u64 a0, .int .u64 (bits .xor .u64 a1 1)])) (by simp [results, Tryf.results56, go_sem]) rfl ⟨rfl, rfl⟩
theorem coverage_c (a0 a1 : Int) (h0 : 0 ≤ a0) (h1 : a0 ≤ 63) (w : World) :
    Calls Tryf.prog 53 #[(.agg #[.int .u64 a0, .int .u64 a1])] w fun e w' => e = .returned (.tuple #[.int .u64 (IntKind.u64.wrap (a1 * 2 ^ a0.toNat)), .int .u64 (IntKind.u64.wrap (IntKind.u64.wrap (a1 + 1) * 2 ^ a0.toNat))]) ∧ Below w.heap.size w w' := by
  go_enter Tryf.func53, Tryf.ntmps53
  go_wp2
  go_quiet (fail)
  go_wp2
  go_ret2
  exact ⟨rfl, below_drewN ((Below.refl _ _).alloc (Nat.le_refl _) _) _⟩
end Go.Proofs.YteilafhajhbdaaaFmt
