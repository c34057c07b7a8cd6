/- Lists of hashes as they lie in memory; the chains of hashes of the proofs. -/
import Derived.Test.YtpdmmmcelkinjaaFmtHash
import Derived.Test.YtpdmmmcelkinjaaFmtMth
import Derived.Test.YtpdmmmcelkinjaaFmtBlk
import Derived.Lib.Hide
import Derived.IntWalk
namespace Go.Proofs.YtpdmmmcelkinjaaFmt
open Go.ChangeShapes Go.WideShapes Go.ChangeAt Go.RowKit
set_option maxRecDepth 20000
theorem BytesR.form {w : World} {v : Value} {l : List Nat} (h : BytesR w v l) : ∃ A n c, v = .slice A n c := by obtain ⟨A, c, rfl, _⟩ := h; exact ⟨A, _, c, rfl⟩
/-- A slice in which these hashes lie. -/
def HashesR (w : World) (v : Value) (L : List (List Nat)) : Prop :=
  ∃ A cap, v = .slice A L.length cap ∧ L.length ≤ cap ∧ (∀ x ∈ L, Pl.Bytes x) ∧ (0 < L.length → ∃ g o, A = some ⟨g, o, none⟩ ∧ ∀ k (h : k < L.length), ∃ u, w.cell? ⟨g, o + k, none⟩ = some u ∧ BytesR w u L[k])
theorem HashesR.below {w w' : World} {v : Value} {L : List (List Nat)} (h : HashesR w v L) (hb : Below w.heap.size w w') : HashesR w' v L := by
  obtain ⟨A, cap, rfl, hc, hy, h⟩ := h
  refine ⟨A, cap, rfl, hc, hy, fun hl => ?_⟩
  obtain ⟨g, o, rfl, h'⟩ := h hl
  exact ⟨g, o, rfl, fun k hk => by
    obtain ⟨u, hu, hbr⟩ := h' k hk
    exact ⟨u, (hb.cell (World.block_lt_of_cell? w _ hu)).trans hu, hbr.below hb⟩⟩
/-- The hash function as the interface's value. -/
def hasherV (h : Pl.HF) : Value := .iface 24 (hashV h)
end Go.Proofs.YtpdmmmcelkinjaaFmt
