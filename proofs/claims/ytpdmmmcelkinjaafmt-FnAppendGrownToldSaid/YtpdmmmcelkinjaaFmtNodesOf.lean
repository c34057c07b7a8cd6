/- Lists of nodes as they lie in memory; what impl.nodesOf makes. -/
import Derived.Test.YtpdmmmcelkinjaaFmtPieces
import Derived.Deep.Onto
namespace Go.Proofs.YtpdmmmcelkinjaaFmt
open Go.ChangeShapes Go.WideShapes Go.ChangeAt Go.RowKit

/-- A slice in which these nodes lie. -/
def NodesR (w : World) (v : Value) (L : List (Nat × Nat)) : Prop :=
  ∃ A cap, v = .slice A L.length cap ∧ L.length ≤ cap ∧ (0 < L.length → ∃ g o, A = some ⟨g, o, none⟩ ∧ ∀ k (h : k < L.length), w.cell? ⟨g, o + k * 2, none⟩ = some (.int .u64 L[k].1) ∧ w.cell? ⟨g, o + k * 2 + 1, none⟩ = some (.int .u64 L[k].2))
theorem NodesR.below {w w' : World} {v : Value} {L : List (Nat × Nat)} (h : NodesR w v L) (hb : Below w.heap.size w w') : NodesR w' v L := by
  obtain ⟨A, cap, rfl, hc, h⟩ := h
  refine ⟨A, cap, rfl, hc, fun hl => ?_⟩
  obtain ⟨g, o, rfl, h'⟩ := h hl
  clear h; have h := h'
  exact ⟨g, o, rfl, fun k hk => ⟨(hb.cell (World.block_lt_of_cell? w _ (h k hk).1)).trans (h k hk).1, (hb.cell (World.block_lt_of_cell? w _ (h k hk).2)).trans (h k hk).2⟩⟩
theorem NodesR.of_own {w : World} {base : Nat} {t : TypeId} {v : Value} {L : List (Nat × Nat)} (h : w.ownsRow base t 2 v L.length (nodeCells L)) : NodesR w v L := by
  rcases own_cases h with ⟨h0, A, c, rfl⟩ | ⟨h0, g, c, rfl, hc⟩
  · obtain ⟨_, _, e, hh⟩ := own_slice h
    injection e with _ _ e; subst e
    exact ⟨A, c, rfl, hh, fun hl => absurd h0 (by omega)⟩
  · refine ⟨_, c, rfl, hc, fun _ => ⟨g, 0, rfl, fun k hk => ?_⟩⟩
    have h1 := nodeCells_at L k hk
    constructor
    · rw [Nat.zero_add, h.cellAt (k * 2) (by omega), Nat.mul_comm]; exact h1.1
    · rw [Nat.zero_add, h.cellAt (k * 2 + 1) (by omega), Nat.mul_comm]; exact h1.2
/-- A slice that lies in no block below this one. -/
def Fresh (base : Nat) (v : Value) : Prop := ∀ a n c, v = .slice (some a) n c → base ≤ a.block
theorem Fresh.mono {b b' : Nat} {v : Value} (h : Fresh b v) (hb : b' ≤ b) : Fresh b' v := fun a n c e => Nat.le_trans hb (h a n c e)
theorem NodesR.setCell {w : World} {v : Value} {L : List (Nat × Nat)} (h : NodesR w v L) {base : Nat} (hf : Fresh base v) {p : Addr} (hp : p.block < base) (u : Value) : NodesR (w.setCell p u) v L := by
  obtain ⟨A, cap, rfl, hc, h⟩ := h
  refine ⟨A, cap, rfl, hc, fun hl => ?_⟩
  obtain ⟨g, o, rfl, h'⟩ := h hl
  have hg := hf _ _ _ rfl
  refine ⟨g, o, rfl, fun k hk => ⟨?_, ?_⟩⟩
  · rw [World.cell?_setCell_other w p _ u (fun e => by subst e; simp at hp hg; omega)]; exact (h' k hk).1
  · rw [World.cell?_setCell_other w p _ u (fun e => by subst e; simp at hp hg; omega)]; exact (h' k hk).2
theorem own_fresh {w : World} {base : Nat} {t : TypeId} {size : Nat} {v : Value} {n : Nat} {xs : List Value} (h : w.ownsRow base t size v n xs) : Fresh base v := fun a m c e => by
  subst e
  exact (h.lt a.block rfl).1
def Room (n : Nat) : Prop := n ≤ 4294967296
theorem roomN1 {n k : Nat} (h : Room n) (hk : k ≤ n) : k + 1 ≤ maxLen := by unfold Room at h; unfold maxLen; omega
theorem roomN2 {n k : Nat} (h : Room n) (hk : k ≤ n) : (k + 1) * 16 ≤ 140737488355328 := by unfold Room at h; omega
theorem take_snoc {α : Type} (L : List α) (k : Nat) (h : k < L.length) : L.take (k + 1) = L.take k ++ [L[k]] := by rw [List.take_add_one, List.getElem?_eq_getElem h]; rfl

end Go.Proofs.YtpdmmmcelkinjaaFmt
