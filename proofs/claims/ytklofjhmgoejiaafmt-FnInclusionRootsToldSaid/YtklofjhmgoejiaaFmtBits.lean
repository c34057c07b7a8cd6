/- What math/bits' functions compute, and the masks and sizes of a range: Len64, OnesCount64, Decompose, RangeSize, each once. -/
import Derived.Test.YtklofjhmgoejiaaFmtRows
import Derived.Test.YtklofjhmgoejiaaFmtPlain
import Derived.WalkKit
import Derived.ProofKit
import Derived.Test.YtklofjhmgoejiaaFmtLen
namespace Go.Proofs.YtklofjhmgoejiaaFmt
open Go.ChangeShapes Go.WideShapes Go.ChangeAt Go.RowKit

theorem wrapN (n : Nat) (h : n < 18446744073709551616) : IntKind.u64.wrap (n : Int) = (n : Int) := by rw [IntKind.wrap_u64]; omega
theorem and_n (a b : Nat) (ha : a < 18446744073709551616) (hb : b < 18446744073709551616) : bits .and .u64 (a : Int) (b : Int) = ((a &&& b : Nat) : Int) := u64_and_nat a b ha hb
theorem and_lt (a b : Nat) (ha : a < 18446744073709551616) : a &&& b < 18446744073709551616 := Nat.lt_of_le_of_lt Nat.and_le_left ha

theorem ofInt_i64 (a : Nat) (ha : a < 9223372036854775808) : (BitVec.ofInt 64 (a : Int)).toNat = a := by
  rw [BitVec.ofInt_natCast, BitVec.toNat_ofNat]; exact Nat.mod_eq_of_lt (by omega)
theorem i64_and_nat (a b : Nat) (ha : a < 9223372036854775808) (hb : b < 9223372036854775808) : bits .and .i64 (a : Int) (b : Int) = ((a &&& b : Nat) : Int) := by
  have hx : a &&& b < 2 ^ 63 := Nat.and_lt_two_pow _ (by omega)
  show IntKind.i64.wrap ((BitVec.ofInt 64 (a : Int) &&& BitVec.ofInt 64 (b : Int)).toNat : Int) = _
  rw [BitVec.toNat_and, ofInt_i64 a ha, ofInt_i64 b hb, IntKind.wrap_i64]
  omega
theorem and_127 (u : Nat) (h : u < 9223372036854775808) : bits .and .i64 (u : Int) 127 = ((u % 128 : Nat) : Int) := by
  have e := i64_and_nat u 127 h (by omega)
  rw [show ((127 : Nat) : Int) = 127 from rfl] at e
  rw [e]
  have := Nat.and_two_pow_sub_one_eq_mod u 7
  simp only [Nat.reducePow, Nat.reduceSub] at this
  rw [this]

theorem ones_c (x : Nat) (hx : x < 18446744073709551616) (w : World) :
    Calls Tryf.prog 45 #[.int .u64 x] w fun e w' => e = .returned (.int .i64 (Pl.pop64 x)) ∧ w = w' := by
  obtain ⟨a, ha⟩ : ∃ a : Nat, a = (x / 2 &&& 6148914691236517205) + (x &&& 6148914691236517205) := ⟨_, rfl⟩
  obtain ⟨b, hb⟩ : ∃ b : Nat, b = (a / 4 &&& 3689348814741910323) + (a &&& 3689348814741910323) := ⟨_, rfl⟩
  obtain ⟨c, hc⟩ : ∃ c : Nat, c = (b / 16 + b) &&& 1085102592571150095 := ⟨_, rfl⟩
  have l1 : x / 2 &&& 6148914691236517205 ≤ 6148914691236517205 := Nat.and_le_right
  have l2 : x &&& 6148914691236517205 ≤ 6148914691236517205 := Nat.and_le_right
  have l3 : a / 4 &&& 3689348814741910323 ≤ 3689348814741910323 := Nat.and_le_right
  have l4 : a &&& 3689348814741910323 ≤ 3689348814741910323 := Nat.and_le_right
  obtain ⟨y, z, u, hy, hz, hu, _, _, _, hp, hlt⟩ := Pl.ones64 x a b c ha hb hc hx
  have a64 : a < 18446744073709551616 := by omega
  have b64 : b ≤ 7378697629483820646 := by omega
  have eA : IntKind.u64.wrap (bits .and .u64 ((x : Int) / 2) 6148914691236517205 + bits .and .u64 (x : Int) 6148914691236517205) = (a : Int) := by
    have e1 := and_n (x / 2) 6148914691236517205 (by omega) (by omega)
    have e2 := and_n x 6148914691236517205 (by omega) (by omega)
    simp only [Int.natCast_ediv, Int.cast_ofNat_Int] at e1 e2
    rw [e1, e2, ha, IntKind.wrap_u64]; omega
  have eB : IntKind.u64.wrap (bits .and .u64 ((a : Int) / 4) 3689348814741910323 + bits .and .u64 (a : Int) 3689348814741910323) = (b : Int) := by
    have e1 := and_n (a / 4) 3689348814741910323 (by omega) (by omega)
    have e2 := and_n a 3689348814741910323 (by omega) (by omega)
    simp only [Int.natCast_ediv, Int.cast_ofNat_Int] at e1 e2
    rw [e1, e2, hb, IntKind.wrap_u64]; omega
  have eC : bits .and .u64 (IntKind.u64.wrap ((b : Int) / 16 + (b : Int))) 1085102592571150095 = (c : Int) := by
    have e1 := and_n (b / 16 + b) 1085102592571150095 (by omega) (by omega)
    simp only [Int.natCast_add, Int.natCast_ediv, Int.cast_ofNat_Int] at e1
    rw [show IntKind.u64.wrap ((b : Int) / 16 + (b : Int)) = (b : Int) / 16 + (b : Int) by rw [IntKind.wrap_u64]; omega, e1, hc]
  have eY : IntKind.u64.wrap ((c : Int) + (c : Int) / 256) = (y : Int) := by rw [IntKind.wrap_u64]; omega
  have eZ : IntKind.u64.wrap ((y : Int) + (y : Int) / 65536) = (z : Int) := by rw [IntKind.wrap_u64]; omega
  have eU : IntKind.u64.wrap ((z : Int) + (z : Int) / 4294967296) = (u : Int) := by rw [IntKind.wrap_u64]; omega
  have eW : wrap64 (u : Int) = (u : Int) := by unfold wrap64; omega
  have eF : bits .and .i64 (u : Int) 127 = (Pl.pop64 x : Int) := by rw [and_127 u hlt, hp]
  clear ha hb hc l1 l2 l3 l4 hy hz hu hp a64 b64 hlt
  go_enter Tryf.func45, Tryf.ntmps45
  go_wp2
  go_ret
  exact ⟨rfl, rfl⟩

theorem bitLen_lib : ∀ (f x : Nat), x < 2 ^ f → Lib.bitLenAux f x = bitLen x
  | 0, x, h => by
    obtain rfl : x = 0 := by simpa using h
    rfl
  | f + 1, x, h => by
    rw [Lib.bitLenAux]
    split
    · subst_vars; rfl
    · rename_i h0
      have hp : 2 ^ (f + 1) = 2 * 2 ^ f := by rw [Nat.pow_succ, Nat.mul_comm]
      rw [bitLen_lib f (x / 2) (by omega), Pl.blen_pos h0, Nat.add_comm]
theorem len_c (x : Nat) (hx : x < 18446744073709551616) (w : World) :
    Calls Tryf.prog 49 #[.int .u64 x] w fun e w' => e = .returned (.int .i64 (bitLen x)) ∧ w = w' :=
  (len_lib x w (by omega) (by omega)).mono fun e w' ⟨he, hw⟩ => ⟨by rw [he, Int.toNat_natCast]; unfold Lib.bitLen; rw [bitLen_lib 64 x hx], hw.symm⟩

/-! ### The two masks -/
theorem not_n (x : Nat) (h : x < 18446744073709551616) : bits .xor .u64 IntKind.u64.max (x : Int) = ((18446744073709551615 - x : Nat) : Int) := by
  have e := u64_xor_nat 18446744073709551615 x (by omega) h
  rw [show IntKind.u64.max = ((18446744073709551615 : Nat) : Int) from rfl, e]
  congr 1
  have h1 : 18446744073709551615 ^^^ x = 18446744073709551615 - x := by
    have e1 : 18446744073709551615 - x = 2 ^ 64 - (x + 1) := by omega
    rw [e1, show (18446744073709551615 : Nat) = 2 ^ 64 - 1 from rfl]
    apply Nat.eq_of_testBit_eq
    intro i
    rw [Nat.testBit_xor, Nat.testBit_two_pow_sub_one, Nat.testBit_two_pow_sub_succ (by simpa using h)]
    by_cases hi : i < 64
    · simp [hi]
    · have : x.testBit i = false := Nat.testBit_lt_two_pow (Nat.lt_of_lt_of_le h (Nat.pow_le_pow_right (n := 2) (by omega) (show 64 ≤ i by omega)))
      simp [hi, this]
  rw [h1]
theorem pow_wrap (D : Nat) (h : D ≤ 63) : IntKind.u64.wrap ((2 : Int) ^ D) = (2 : Int) ^ D ∧ IntKind.u64.wrap ((2 : Int) ^ D - 1) = ((2 ^ D - 1 : Nat) : Int) := by
  have h1 := Nat.pow_le_pow_right (n := 2) (by omega) h
  have h2 := Nat.two_pow_pos D
  have e : ((2 ^ D : Nat) : Int) = (2 : Int) ^ D := by simp
  rw [← e, IntKind.wrap_u64, IntKind.wrap_u64]
  omega
theorem and_mask (a D : Nat) (ha : a < 18446744073709551616) (h : D ≤ 63) : bits .and .u64 (a : Int) ((2 ^ D - 1 : Nat) : Int) = ((a % 2 ^ D : Nat) : Int) := by
  have h1 := Nat.pow_le_pow_right (n := 2) (by omega) h
  rw [and_n a (2 ^ D - 1) ha (by omega), Nat.and_two_pow_sub_one_eq_mod]
theorem pop_le (x : Nat) : Pl.pop64 x ≤ 64 := Pl.pop_le 64 x
end Go.Proofs.YtklofjhmgoejiaaFmt
