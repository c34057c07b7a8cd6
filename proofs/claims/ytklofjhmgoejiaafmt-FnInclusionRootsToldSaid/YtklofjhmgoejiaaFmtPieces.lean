/- What spec.Pieces returns: the nodes of the fewest perfect trees, in new memory. -/
import Derived.Test.YtklofjhmgoejiaaFmtBits
import Derived.Deep.AppendLies
import Derived.WalkKit
import Derived.Outline
namespace Go.Proofs.YtklofjhmgoejiaaFmt
open Go.ChangeShapes Go.WideShapes Go.ChangeAt Go.RowKit

theorem own_slice {w : World} {base : Nat} {e : TypeId} {size : Nat} {v : Value} {n : Nat} {xs : List Value} (h : w.ownsRow base e size v n xs) : ∃ A c, v = .slice A n c ∧ n ≤ c := by
  rcases h.2 with ⟨rfl, rfl⟩ | ⟨g, cap, cur, rfl, _, _, hc, _⟩
  · exact ⟨none, 0, rfl, Nat.le_refl _⟩
  · exact ⟨_, cap, rfl, hc⟩
theorem own_cases {w : World} {base : Nat} {e : TypeId} {size : Nat} {v : Value} {n : Nat} {xs : List Value} (h : w.ownsRow base e size v n xs) : (n = 0 ∧ ∃ A c, v = .slice A n c) ∨ (0 < n ∧ ∃ g c, v = .slice (some ⟨g, 0, none⟩) n c ∧ n ≤ c) := by
  rcases h.2 with ⟨rfl, rfl⟩ | ⟨g, cap, cur, rfl, _, _, hc, _⟩
  · exact .inl ⟨rfl, none, 0, rfl⟩
  · rcases Nat.eq_zero_or_pos n with h0 | h0
    · exact .inl ⟨h0, _, cap, rfl⟩
    · exact .inr ⟨h0, g, cap, rfl, hc⟩
theorem own_below {w w' : World} {base : Nat} {e : TypeId} {size : Nat} {v : Value} {n : Nat} {xs : List Value} (h : w.ownsRow base e size v n xs) (hb : Below w.heap.size w w') : w'.ownsRow base e size v n xs :=
  h.kept (row := none) ⟨hb.os, hb.tape, hb.output, hb.size, fun k hk _ => hb.block k hk⟩ (by cases hv : v.ownBlock <;> simp)
end Go.Proofs.YtklofjhmgoejiaaFmt
