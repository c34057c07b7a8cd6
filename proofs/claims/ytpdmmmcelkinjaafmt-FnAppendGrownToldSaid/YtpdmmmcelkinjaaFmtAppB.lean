/- What the walk of compact.Range.appendImpl rests on. -/
import Derived.Test.YtpdmmmcelkinjaaFmtRangeT
import Derived.Test.YtpdmmmcelkinjaaFmtMergeW
import Derived.Test.YtpdmmmcelkinjaaFmtNode
namespace Go.Proofs.YtpdmmmcelkinjaaFmt
open Go.ChangeShapes Go.WideShapes Go.ChangeAt Go.RowKit
set_option maxRecDepth 20000
theorem pop_low (x t : Nat) (ht : t ≤ 64) : Pl.pop64 (x % 2 ^ t) = Pl.pop t x := by
  unfold Pl.pop64
  have h := Pl.pop_add t (64 - t) (x % 2 ^ t)
  rw [show t + (64 - t) = 64 by omega] at h
  have hz : ∀ f, Pl.pop f 0 = 0 := by
    intro f
    induction f with
    | zero => rfl
    | succ f ih => show 0 % 2 + Pl.pop f (0 / 2) = 0; simp [ih]
  rw [h, Pl.pop_mod, Nat.div_eq_of_lt (Nat.mod_lt _ (Nat.two_pow_pos t)), hz, Nat.add_zero]
theorem nf_nil (w : World) : (binOp BinOp.neq 88 Value.nilFunc Value.nilFunc).run Tryf.prog w = .ok (.bool false) w := by kernel_rfl
theorem nf_fun (k : Nat) (a b : Array Value) (w : World) : (binOp BinOp.neq 88 (Value.func (.func k) a b) Value.nilFunc).run Tryf.prog w = .ok (.bool true) w := by kernel_rfl
theorem pop_split (x t j : Nat) (hj : j < t) : ∃ r, Pl.pop t x = Pl.pop (j + 1) x + r ∧ r ≤ t - (j + 1) := by
  have h := Pl.pop_add (j + 1) (t - (j + 1)) x
  rw [show j + 1 + (t - (j + 1)) = t by omega] at h
  exact ⟨_, h, Pl.pop_le _ _⟩
theorem pop_one (x j : Nat) : Pl.pop (j + 1) x = Pl.pop j x + x / 2 ^ j % 2 := by
  have h := Pl.pop_add j 1 x
  rw [h]
  show _ = _
  simp [Pl.pop]
theorem cells4 {W w' : World} {p1 p2 p3 p4 : Addr} {v1 v2 v3 v4 : Value} (hb : Below W.heap.size W w') (S : W.cell? p1 = some v1 ∧ W.cell? p2 = some v2 ∧ W.cell? p3 = some v3 ∧ W.cell? p4 = some v4) : w'.cell? p1 = some v1 ∧ w'.cell? p2 = some v2 ∧ w'.cell? p3 = some v3 ∧ w'.cell? p4 = some v4 := by
  have up : ∀ {p : Addr} {v : Value}, W.cell? p = some v → w'.cell? p = some v := fun {p} {_} h => (hb.cell (World.block_lt_of_cell? W p h)).trans h
  exact ⟨up S.1, up S.2.1, up S.2.2.1, up S.2.2.2⟩
theorem cells3 {W w' : World} {p1 p2 p3 : Addr} {v1 v2 v3 : Value} (hb : Below W.heap.size W w') (S : W.cell? p1 = some v1 ∧ W.cell? p2 = some v2 ∧ W.cell? p3 = some v3) : w'.cell? p1 = some v1 ∧ w'.cell? p2 = some v2 ∧ w'.cell? p3 = some v3 := by
  have up : ∀ {p : Addr} {v : Value}, W.cell? p = some v → w'.cell? p = some v := fun {p} {_} h => (hb.cell (World.block_lt_of_cell? W p h)).trans h
  exact ⟨up S.1, up S.2.1, up S.2.2⟩
theorem ownBlock_same (A : Option Addr) (n c m d : Nat) : (Value.slice A n c).ownBlock = (Value.slice A m d).ownBlock := by cases A <;> rfl
theorem RangeB.keep {ts : List TypeId} {w w' : World} {g gf : Nat} {h : Pl.HF} {b e : Nat} {hv : Value} (hr : RangeB w g gf h b e hv) (hk : KeepT ts w w') (h1 : 82 ∉ ts) (h2 : 58 ∉ ts) : RangeB w' g gf h b e hv := ⟨hk.blk hr.1 h1, hk.blk hr.2 h2⟩
end Go.Proofs.YtpdmmmcelkinjaaFmt
