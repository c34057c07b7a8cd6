/- What spec.Pieces returns: the nodes of the fewest perfect trees, in new memory. -/
import Derived.Test.YtobnmgnnidhfkaaFmtBits
import Derived.Deep.AppendLies
import Derived.WalkKit
import Derived.Outline
namespace Go.Proofs.YtobnmgnnidhfkaaFmt
open Go.ChangeShapes Go.WideShapes Go.ChangeAt Go.RowKit

theorem nodeInfo : (Tryf.prog.info? 34).map (fun i => (i.zero, i.size, i.bytes)) = some (some (.agg #[.int .u64 0, .int .u64 0]), 2, 16) := by kernel_rfl
/-- The cells of nodes. -/
def nodeCells (L : List (Nat × Nat)) : List Value := L.flatMap fun p => [.int .u64 p.1, .int .u64 p.2]
theorem nodeCells_snoc (L : List (Nat × Nat)) (l i : Nat) : nodeCells (L ++ [(l, i)]) = nodeCells L ++ [.int .u64 l, .int .u64 i] := by simp [nodeCells]
def RetNodes (w : World) (L : List (Nat × Nat)) (e : Ending) (w' : World) : Prop :=
  ∃ v, e = .returned v ∧ w'.ownsRow w.heap.size 34 2 v L.length (nodeCells L) ∧ Below w.heap.size w w'

theorem lenOk1 {n : Nat} (h : n ≤ 128) : n + 1 ≤ maxLen := by unfold maxLen; omega
theorem lenOk2 {n : Nat} (h : n ≤ 128) : (n + 1) * 16 ≤ 140737488355328 := by omega
theorem shl2_wrap (l : Nat) (h : l < 63) : IntKind.u64.wrap (2 * 2 ^ l) = ((2 ^ (l + 1) : Nat) : Int) := by
  have h1 := Nat.pow_le_pow_right (n := 2) (by omega) (show l + 1 ≤ 63 by omega)
  have e : ((2 ^ (l + 1) : Nat) : Int) = 2 * (2 : Int) ^ l := by rw [Nat.pow_succ, Nat.mul_comm]; simp
  rw [← e, IntKind.wrap_u64]
  generalize 2 ^ (l + 1) = q at *
  omega
theorem own_slice {w : World} {base : Nat} {e : TypeId} {size : Nat} {v : Value} {n : Nat} {xs : List Value} (h : w.ownsRow base e size v n xs) : ∃ A c, v = .slice A n c ∧ n ≤ c := by
  rcases h.2 with ⟨rfl, rfl⟩ | ⟨g, cap, cur, rfl, _, _, hc, _⟩
  · exact ⟨none, 0, rfl, Nat.le_refl _⟩
  · exact ⟨_, cap, rfl, hc⟩
theorem own_cases {w : World} {base : Nat} {e : TypeId} {size : Nat} {v : Value} {n : Nat} {xs : List Value} (h : w.ownsRow base e size v n xs) : (n = 0 ∧ ∃ A c, v = .slice A n c) ∨ (0 < n ∧ ∃ g c, v = .slice (some ⟨g, 0, none⟩) n c ∧ n ≤ c) := by
  rcases h.2 with ⟨rfl, rfl⟩ | ⟨g, cap, cur, rfl, _, _, hc, _⟩
  · exact .inl ⟨rfl, none, 0, rfl⟩
  · rcases Nat.eq_zero_or_pos n with h0 | h0
    · exact .inl ⟨h0, _, cap, rfl⟩
    · exact .inr ⟨h0, g, cap, rfl, hc⟩
theorem own_below {w w' : World} {base : Nat} {e : TypeId} {size : Nat} {v : Value} {n : Nat} {xs : List Value} (h : w.ownsRow base e size v n xs) (hb : Below w.heap.size w w') : w'.ownsRow base e size v n xs :=
  h.kept (row := none) ⟨hb.os, hb.tape, hb.output, hb.size, fun k hk _ => hb.block k hk⟩ (by cases hv : v.ownBlock <;> simp)
theorem nodeCells_at : ∀ (L : List (Nat × Nat)) (k : Nat) (h : k < L.length), (nodeCells L)[2 * k]? = some (.int .u64 L[k].1) ∧ (nodeCells L)[2 * k + 1]? = some (.int .u64 L[k].2)
  | p :: L, 0, _ => by simp [nodeCells]
  | p :: L, k + 1, h => by
    have := nodeCells_at L k (by simpa using h)
    simp only [nodeCells, List.flatMap_cons, List.cons_append, List.nil_append] at *
    rw [show 2 * (k + 1) = 2 * k + 1 + 1 by omega, show 2 * k + 1 + 1 + 1 = (2 * k + 1) + 1 + 1 by omega]
    simpa using this
theorem nodeCells_length (L : List (Nat × Nat)) : (nodeCells L).length = L.length * 2 := by
  induction L with
  | nil => rfl
  | cons p L ih => simp only [nodeCells, List.flatMap_cons, List.length_append, List.length_cons, List.length_nil] at *; omega
end Go.Proofs.YtobnmgnnidhfkaaFmt
