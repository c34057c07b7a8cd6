/- What the methods of a node and the thin functions over them compute, each once, and what memory they make. -/
import Derived.Test.YtpdmmmcelkinjaaFmtRows
import Derived.WalkKit
import Derived.ProofKit
import Derived.Deep.QuietTactic
import Derived.BigQuiet
import Derived.Laws.Bits64
import Derived.Laws.BitsAllLaws
namespace Go.Proofs.YtpdmmmcelkinjaaFmt
open Go.ChangeShapes Go.WideShapes Go.ChangeAt Go.RowKit

/-- What a call leaves below the blocks that were there. -/
theorem bcell {W w1 : World} (hb : Below W.heap.size W w1) : (∀ b o, b < W.heap.size → w1.cell? ⟨b, o, none⟩ = W.cell? ⟨b, o, none⟩) ∧ (∀ b o, b < W.heap.size → w1.frozen? ⟨b, o, none⟩ = W.frozen? ⟨b, o, none⟩) ∧ W.heap.size ≤ w1.heap.size :=
  ⟨fun b o h => hb.cell (p := ⟨b, o, none⟩) h, fun b o h => hb.frozen (p := ⟨b, o, none⟩) h, hb.size⟩
theorem below_drewN {B : Nat} {a w : World} (h : Below B a w) (n : Nat) : Below B a (w.drewN n) := ⟨h.os, h.tape, h.output, h.size, h.block⟩

theorem newNode_c (a0 a1 : Int) (w : World) :
    Calls Tryf.prog 50 #[.int .u64 a0, .int .u64 a1] w fun e w' => e = .returned ((.agg #[.int .u64 a0, .int .u64 a1])) ∧ w.alloc (.cells #[.int .u64 a0, .int .u64 a1] 70) = w' := by
  go_enter Tryf.func50, Tryf.ntmps50
  go_wp2
  exact bodyPost_ret (v := (.agg #[.int .u64 a0, .int .u64 a1])) (by simp [results, Tryf.results50, go_sem]) rfl ⟨rfl, rfl⟩

theorem parent_c (a0 a1 : Int) (w : World) :
    Calls Tryf.prog 48 #[(.agg #[.int .u64 a0, .int .u64 a1])] w fun e w' => e = .returned ((.agg #[.int .u64 (IntKind.u64.wrap (a0 + 1)), .int .u64 (a1 / 2)])) ∧
      ((w.alloc (.cells #[.int .u64 a0, .int .u64 a1] 70)).alloc (.cells #[.int .u64 (IntKind.u64.wrap (a0 + 1)), .int .u64 (a1 / 2)] 70)).alloc (.cells #[.int .u64 (IntKind.u64.wrap (a0 + 1)), .int .u64 (a1 / 2)] 70) = w' := by
  go_enter Tryf.func48, Tryf.ntmps48
  go_wp2_with (go_at_call 50; refine (newNode_c _ _ _).mono ?_; rintro e w' ⟨rfl, rfl⟩)
  exact bodyPost_ret (v := (.agg #[.int .u64 (IntKind.u64.wrap (a0 + 1)), .int .u64 (a1 / 2)])) (by simp [results, Tryf.results48, go_sem]) rfl ⟨rfl, rfl⟩
theorem implParent (a0 a1 : Int) (w : World) :
    Calls Tryf.prog 32 #[(.agg #[.int .u64 a0, .int .u64 a1])] w fun e w' => e = .returned ((.agg #[.int .u64 (IntKind.u64.wrap (a0 + 1)), .int .u64 (a1 / 2)])) ∧ Below w.heap.size w w' := by
  go_enter Tryf.func32, Tryf.ntmps32
  go_wp2_with (go_at_call 48; refine (parent_c _ _ _).mono ?_; rintro e w' ⟨rfl, rfl⟩)
  refine bodyPost_ret (v := (.agg #[.int .u64 (IntKind.u64.wrap (a0 + 1)), .int .u64 (a1 / 2)])) (by simp [results, Tryf.results32, go_sem]) rfl ⟨rfl, ?_⟩
  repeat (first | exact Below.refl _ _ | refine Below.alloc ?_ ?_ _)
  all_goals (simp <;> omega)
theorem coverage_c (a0 a1 : Int) (h0 : 0 ≤ a0) (h1 : a0 ≤ 63) (w : World) :
    Calls Tryf.prog 34 #[(.agg #[.int .u64 a0, .int .u64 a1])] w fun e w' => e = .returned (.tuple #[.int .u64 (IntKind.u64.wrap (a1 * 2 ^ a0.toNat)), .int .u64 (IntKind.u64.wrap (IntKind.u64.wrap (a1 + 1) * 2 ^ a0.toNat))]) ∧ Below w.heap.size w w' := by
  go_enter Tryf.func34, Tryf.ntmps34
  go_wp2
  go_quiet (fail)
  go_wp2
  go_ret2
  exact ⟨rfl, below_drewN ((Below.refl _ _).alloc (Nat.le_refl _) _) _⟩
theorem implCoverage (a0 a1 : Int) (h0 : 0 ≤ a0) (h1 : a0 ≤ 63) (w : World) :
    Calls Tryf.prog 25 #[(.agg #[.int .u64 a0, .int .u64 a1])] w fun e w' => e = .returned (.tuple #[.int .u64 (IntKind.u64.wrap (a1 * 2 ^ a0.toNat)), .int .u64 (IntKind.u64.wrap (IntKind.u64.wrap (a1 + 1) * 2 ^ a0.toNat))]) ∧ Below w.heap.size w w' := by
  go_enter Tryf.func25, Tryf.ntmps25
  go_wp2_with (go_at_call 34; refine (coverage_c _ _ h0 h1 _).mono ?_; rintro e w' ⟨rfl, hb⟩)
  go_ret2
  exact ⟨rfl, ((Below.refl _ _).alloc (Nat.le_refl _) _).trans (hb.mono (by simp))⟩
end Go.Proofs.YtpdmmmcelkinjaaFmt
