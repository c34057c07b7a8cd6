/- What math/bits.TrailingZeros64 computes, where its table holds what start-up lays. (The walk is that of the guide's own text for this function.) -/
import Derived.Test.YtpdmmmcelkinjaaFmtBits
import Derived.Laws.Bits64b
import Derived.Lib.TrailingZeros
import Derived.Deep.Draws
namespace Go.Proofs.YtpdmmmcelkinjaaFmt
open Go.ChangeShapes Go.WideShapes Go.ChangeAt Go.RowKit

/-- The table in its variable. -/
def Tab (w : World) : Prop := ∀ j, j < 64 → w.cell? ⟨0, j, none⟩ = some (.int .u8 (Lib.deBruijn64tab.getD j 0 : Nat))
theorem Tab.below {w w' : World} (h : Tab w) (hb : Below w.heap.size w w') : Tab w' := fun j hj =>
  (hb.cell (World.block_lt_of_cell? w _ (h j hj))).trans (h j hj)
theorem Tab.grown {w w' : World} {row : Option Nat} (h : Tab w) (hb : w.grownBy w' row) (hr : row ≠ some 0) : Tab w' := fun j hj =>
  (World.cell?_of_block (hb.block _ (World.block_lt_of_cell? w _ (h j hj)) (Ne.symm hr))).trans (h j hj)
theorem Tab.drewN {w : World} (h : Tab w) (n : Nat) : Tab (w.drewN n) := h
theorem Tab.drew {w : World} (h : Tab w) : Tab w.drew := h
theorem Tab.alloc {w : World} (h : Tab w) (o : Obj) : Tab (w.alloc o) := h.below ((Below.refl _ _).alloc (Nat.le_refl _) o)

set_option maxHeartbeats 1000000 in
theorem tz_core (x k idx : Nat) (w : World) (hx0 : ((x : Int) == 0) = false)
    (key : IntKind.u64.wrap (bits BinOp.and IntKind.u64 (x : Int) (IntKind.u64.wrap (-(x : Int))) * 285870213051353865) / 288230376151711744 = (idx : Int))
    (hi : idx < 64) (hk : k < 64) (hcell : w.cell? ⟨0, idx, none⟩ = some (.int .u8 k)) :
    Calls Tryf.prog 56 #[.int .u64 x] w fun e w' => e = .returned (.int .i64 k) ∧ w = w' := by
  go_enter Tryf.func56, Tryf.ntmps56
  go_wp2_with (simp only [key])
  go_ret
  exact ⟨rfl, rfl⟩
theorem tz_key (x a : Nat) (hx : x < 18446744073709551616) (hx0 : x ≠ 0) (hlow : x &&& (18446744073709551616 - x) = a) :
    IntKind.u64.wrap (bits BinOp.and IntKind.u64 (x : Int) (IntKind.u64.wrap (-(x : Int))) * 285870213051353865) / 288230376151711744 = ((a * 285870213051353865 % 18446744073709551616 / 288230376151711744 : Nat) : Int) := by
  have e1 : IntKind.u64.wrap (-(x : Int)) = ((18446744073709551616 - x : Nat) : Int) := by rw [IntKind.wrap_u64]; omega
  rw [e1, and_n x _ hx (by omega), hlow, IntKind.wrap_u64]
  omega
/-- Of a number that is not 0: how many zeros it ends in. -/
theorem tz_c (x : Nat) (hx0 : x ≠ 0) (hx : x < 18446744073709551616) (w : World) (hT : Tab w) :
    Calls Tryf.prog 56 #[.int .u64 x] w fun e w' => e = .returned (.int .i64 (Lib.ctz 64 x : Nat)) ∧ w = w' := by
  obtain ⟨hlow, hk⟩ := Lib.lowest_bit 64 x hx0 hx
  obtain ⟨hi, htab⟩ := Lib.deBruijn64_at _ hk
  have hcell := hT _ hi
  rw [htab] at hcell
  exact tz_core x _ _ w (by simp; omega) (tz_key x _ hx hx0 hlow) hi hk hcell
/-- x = 2^(ctz x) times an odd number. -/
theorem ctz_odd (x : Nat) (hx0 : x ≠ 0) (hx : x < 18446744073709551616) : ∃ m, x = 2 ^ Lib.ctz 64 x * (2 * m + 1) ∧ Lib.ctz 64 x < 64 := by
  obtain ⟨m, hm, hk⟩ := Lib.ctzFrom_spec 64 x (by omega) hx
  have e : Lib.ctz 64 x = Lib.ctzFrom 64 x := by simp [Lib.ctz, hx0]
  rw [e]
  exact ⟨m, hm, hk⟩
end Go.Proofs.YtpdmmmcelkinjaaFmt
