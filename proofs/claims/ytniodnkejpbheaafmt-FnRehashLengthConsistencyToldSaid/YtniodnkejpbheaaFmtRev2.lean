/- The end of a list of nodes, cut off and reversed. -/
import Derived.Test.YtniodnkejpbheaaFmtRev
namespace Go.Proofs.YtniodnkejpbheaaFmt
open Go.ChangeShapes Go.WideShapes Go.ChangeAt Go.RowKit
/-- The slice that begins behind the first n1 entries. -/
def tailV (g n1 nr cap : Nat) : Value := .slice (if cap = n1 then some ⟨g, 0, none⟩ else some ⟨g, n1 * 2, none⟩) nr (cap - n1)
theorem add_plain (g o k : Nat) : (⟨g, o, none⟩ : Addr).add k = ⟨g, o + k, none⟩ := by unfold Addr.add; split <;> simp_all
theorem elemId : Tryf.prog.elem 54 = 55 := by kernel_rfl
theorem sizeId (w : World) : (sizeOf 55).run Tryf.prog w = .ok 2 w := by
  obtain ⟨i0, hi, hz0, hz1, hz2⟩ := info_parts idInfo
  simp [sizeOf, typeInfo, hi, hz1]
theorem slice_tail (g n1 nr N cap : Nat) (h : N = n1 + nr) (W : World) :
    (Instr.slice 54 (.slice (some ⟨g, 0, none⟩) N cap) (some (.int .i64 (n1 : Int))) none none).run Tryf.prog W = .ok (tailV g n1 nr cap) W := by
  rw [run_slice_l W 54 _ _ _ (by rw [elemId]; exact Tryf.underlying54) .i64 (n1 : Int) (by omega) (by omega), elemId, sizeId]
  simp only [Result.andThen_ok, sliced, tailV, Option.map_some, add_plain, Int.toNat_natCast, Nat.zero_add]
  rw [show N - n1 = nr by omega]
theorem reverse_tail (base g n1 nr N cap : Nat) (hN : N = n1 + nr) (X P : List (Nat × Nat)) (hX : X.length = n1) (hP : P.length = nr) (w : World) (hown : w.ownsRow base 55 2 (.slice (some ⟨g, 0, none⟩) N cap) N (nodeCells (X ++ P))) (hcap : N ≤ cap) (hroom : Room N) :
    Calls Tryf.prog 65 #[tailV g n1 nr cap] w fun e w' => e = .returned (.tuple #[]) ∧ w'.ownsRow base 55 2 (.slice (some ⟨g, 0, none⟩) N cap) N (nodeCells (X ++ P.reverse)) ∧ w.grownBy w' (some g) := by
  have hl : (X ++ P).length = N := by rw [List.length_append]; omega
  by_cases h0 : nr = 0
  · subst h0
    have hP0 : P = [] := List.eq_nil_of_length_eq_zero hP
    subst hP0
    unfold tailV
    refine (reverse_0 _ _ w).mono ?_
    rintro e w' ⟨rfl, rfl⟩
    exact ⟨rfl, hown, World.grownBy.refl _ _⟩
  · unfold tailV
    rw [if_neg (by omega)]
    subst hl
    have := reverse_c base g cap n1 nr (X ++ P) w hown (by omega) (cap - n1) (by omega) (by omega) hroom
    rw [← hX, List.take_left, List.drop_left] at this
    rw [← hX]
    exact this
end Go.Proofs.YtniodnkejpbheaaFmt
