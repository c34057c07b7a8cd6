/- What math/bits' functions compute, and the masks and sizes of a range: Len64, OnesCount64, Decompose, RangeSize, each once. -/
import Derived.Test.YtpdmmmcelkinjaaFmtRows
import Derived.Test.YtpdmmmcelkinjaaFmtPlain
import Derived.WalkKit
import Derived.ProofKit
import Derived.Test.YtpdmmmcelkinjaaFmtLen
namespace Go.Proofs.YtpdmmmcelkinjaaFmt
open Go.ChangeShapes Go.WideShapes Go.ChangeAt Go.RowKit

theorem wrapN (n : Nat) (h : n < 18446744073709551616) : IntKind.u64.wrap (n : Int) = (n : Int) := by rw [IntKind.wrap_u64]; omega
theorem and_n (a b : Nat) (ha : a < 18446744073709551616) (hb : b < 18446744073709551616) : bits .and .u64 (a : Int) (b : Int) = ((a &&& b : Nat) : Int) := u64_and_nat a b ha hb
theorem and_lt (a b : Nat) (ha : a < 18446744073709551616) : a &&& b < 18446744073709551616 := Nat.lt_of_le_of_lt Nat.and_le_left ha

theorem ofInt_i64 (a : Nat) (ha : a < 9223372036854775808) : (BitVec.ofInt 64 (a : Int)).toNat = a := by
  rw [BitVec.ofInt_natCast, BitVec.toNat_ofNat]; exact Nat.mod_eq_of_lt (by omega)
theorem i64_and_nat (a b : Nat) (ha : a < 9223372036854775808) (hb : b < 9223372036854775808) : bits .and .i64 (a : Int) (b : Int) = ((a &&& b : Nat) : Int) := by
  have hx : a &&& b < 2 ^ 63 := Nat.and_lt_two_pow _ (by omega)
  show IntKind.i64.wrap ((BitVec.ofInt 64 (a : Int) &&& BitVec.ofInt 64 (b : Int)).toNat : Int) = _
  rw [BitVec.toNat_and, ofInt_i64 a ha, ofInt_i64 b hb, IntKind.wrap_i64]
  omega
theorem and_127 (u : Nat) (h : u < 9223372036854775808) : bits .and .i64 (u : Int) 127 = ((u % 128 : Nat) : Int) := by
  have e := i64_and_nat u 127 h (by omega)
  rw [show ((127 : Nat) : Int) = 127 from rfl] at e
  rw [e]
  have := Nat.and_two_pow_sub_one_eq_mod u 7
  simp only [Nat.reducePow, Nat.reduceSub] at this
  rw [this]

theorem ones_c (x : Nat) (hx : x < 18446744073709551616) (w : World) :
    Calls Tryf.prog 55 #[.int .u64 x] w fun e w' => e = .returned (.int .i64 (Pl.pop64 x)) ∧ w = w' := by
  obtain ⟨a, ha⟩ : ∃ a : Nat, a = (x / 2 &&& 6148914691236517205) + (x &&& 6148914691236517205) := ⟨_, rfl⟩
  obtain ⟨b, hb⟩ : ∃ b : Nat, b = (a / 4 &&& 3689348814741910323) + (a &&& 3689348814741910323) := ⟨_, rfl⟩
  obtain ⟨c, hc⟩ : ∃ c : Nat, c = (b / 16 + b) &&& 1085102592571150095 := ⟨_, rfl⟩
  have l1 : x / 2 &&& 6148914691236517205 ≤ 6148914691236517205 := Nat.and_le_right
  have l2 : x &&& 6148914691236517205 ≤ 6148914691236517205 := Nat.and_le_right
  have l3 : a / 4 &&& 3689348814741910323 ≤ 3689348814741910323 := Nat.and_le_right
  have l4 : a &&& 3689348814741910323 ≤ 3689348814741910323 := Nat.and_le_right
  obtain ⟨y, z, u, hy, hz, hu, _, _, _, hp, hlt⟩ := Pl.ones64 x a b c ha hb hc hx
  have a64 : a < 18446744073709551616 := by omega
  have b64 : b ≤ 7378697629483820646 := by omega
  have eA : IntKind.u64.wrap (bits .and .u64 ((x : Int) / 2) 6148914691236517205 + bits .and .u64 (x : Int) 6148914691236517205) = (a : Int) := by
    have e1 := and_n (x / 2) 6148914691236517205 (by omega) (by omega)
    have e2 := and_n x 6148914691236517205 (by omega) (by omega)
    simp only [Int.natCast_ediv, Int.cast_ofNat_Int] at e1 e2
    rw [e1, e2, ha, IntKind.wrap_u64]; omega
  have eB : IntKind.u64.wrap (bits .and .u64 ((a : Int) / 4) 3689348814741910323 + bits .and .u64 (a : Int) 3689348814741910323) = (b : Int) := by
    have e1 := and_n (a / 4) 3689348814741910323 (by omega) (by omega)
    have e2 := and_n a 3689348814741910323 (by omega) (by omega)
    simp only [Int.natCast_ediv, Int.cast_ofNat_Int] at e1 e2
    rw [e1, e2, hb, IntKind.wrap_u64]; omega
  have eC : bits .and .u64 (IntKind.u64.wrap ((b : Int) / 16 + (b : Int))) 1085102592571150095 = (c : Int) := by
    have e1 := and_n (b / 16 + b) 1085102592571150095 (by omega) (by omega)
    simp only [Int.natCast_add, Int.natCast_ediv, Int.cast_ofNat_Int] at e1
    rw [show IntKind.u64.wrap ((b : Int) / 16 + (b : Int)) = (b : Int) / 16 + (b : Int) by rw [IntKind.wrap_u64]; omega, e1, hc]
  have eY : IntKind.u64.wrap ((c : Int) + (c : Int) / 256) = (y : Int) := by rw [IntKind.wrap_u64]; omega
  have eZ : IntKind.u64.wrap ((y : Int) + (y : Int) / 65536) = (z : Int) := by rw [IntKind.wrap_u64]; omega
  have eU : IntKind.u64.wrap ((z : Int) + (z : Int) / 4294967296) = (u : Int) := by rw [IntKind.wrap_u64]; omega
  have eW : wrap64 (u : Int) = (u : Int) := by unfold wrap64; omega
  have eF : bits .and .i64 (u : Int) 127 = (Pl.pop64 x : Int) := by rw [and_127 u hlt, hp]
  clear ha hb hc l1 l2 l3 l4 hy hz hu hp a64 b64 hlt
  go_enter Tryf.func55, Tryf.ntmps55
  go_wp2
  go_ret
  exact ⟨rfl, rfl⟩

theorem bitLen_lib : ∀ (f x : Nat), x < 2 ^ f → Lib.bitLenAux f x = bitLen x
  | 0, x, h => by
    obtain rfl : x = 0 := by simpa using h
    rfl
  | f + 1, x, h => by
    rw [Lib.bitLenAux]
    split
    · subst_vars; rfl
    · rename_i h0
      have hp : 2 ^ (f + 1) = 2 * 2 ^ f := by rw [Nat.pow_succ, Nat.mul_comm]
      rw [bitLen_lib f (x / 2) (by omega), Pl.blen_pos h0, Nat.add_comm]
theorem len_c (x : Nat) (hx : x < 18446744073709551616) (w : World) :
    Calls Tryf.prog 58 #[.int .u64 x] w fun e w' => e = .returned (.int .i64 (bitLen x)) ∧ w = w' :=
  (len_lib x w (by omega) (by omega)).mono fun e w' ⟨he, hw⟩ => ⟨by rw [he, Int.toNat_natCast]; unfold Lib.bitLen; rw [bitLen_lib 64 x hx], hw.symm⟩

/-! ### The two masks -/
theorem not_n (x : Nat) (h : x < 18446744073709551616) : bits .xor .u64 IntKind.u64.max (x : Int) = ((18446744073709551615 - x : Nat) : Int) := by
  have e := u64_xor_nat 18446744073709551615 x (by omega) h
  rw [show IntKind.u64.max = ((18446744073709551615 : Nat) : Int) from rfl, e]
  congr 1
  have h1 : 18446744073709551615 ^^^ x = 18446744073709551615 - x := by
    have e1 : 18446744073709551615 - x = 2 ^ 64 - (x + 1) := by omega
    rw [e1, show (18446744073709551615 : Nat) = 2 ^ 64 - 1 from rfl]
    apply Nat.eq_of_testBit_eq
    intro i
    rw [Nat.testBit_xor, Nat.testBit_two_pow_sub_one, Nat.testBit_two_pow_sub_succ (by simpa using h)]
    by_cases hi : i < 64
    · simp [hi]
    · have : x.testBit i = false := Nat.testBit_lt_two_pow (Nat.lt_of_lt_of_le h (Nat.pow_le_pow_right (n := 2) (by omega) (show 64 ≤ i by omega)))
      simp [hi, this]
  rw [h1]
theorem pow_wrap (D : Nat) (h : D ≤ 63) : IntKind.u64.wrap ((2 : Int) ^ D) = (2 : Int) ^ D ∧ IntKind.u64.wrap ((2 : Int) ^ D - 1) = ((2 ^ D - 1 : Nat) : Int) := by
  have h1 := Nat.pow_le_pow_right (n := 2) (by omega) h
  have h2 := Nat.two_pow_pos D
  have e : ((2 ^ D : Nat) : Int) = (2 : Int) ^ D := by simp
  rw [← e, IntKind.wrap_u64, IntKind.wrap_u64]
  omega
theorem and_mask (a D : Nat) (ha : a < 18446744073709551616) (h : D ≤ 63) : bits .and .u64 (a : Int) ((2 ^ D - 1 : Nat) : Int) = ((a % 2 ^ D : Nat) : Int) := by
  have h1 := Nat.pow_le_pow_right (n := 2) (by omega) h
  rw [and_n a (2 ^ D - 1) ha (by omega), Nat.and_two_pow_sub_one_eq_mod]
theorem dec_zero (e : Nat) (w : World) :
    Calls Tryf.prog 54 #[.int .u64 0, .int .u64 e] w fun r w' => r = .returned (.tuple #[.int .u64 0, .int .u64 e]) ∧ w = w' := by
  go_enter Tryf.func54, Tryf.ntmps54
  go_wp2
  go_ret2
  exact ⟨rfl, rfl⟩
theorem dec_pos (b e D : Nat) (hb0 : ((b : Int) == 0) = false) (hb1 : 1 ≤ b) (hb : b < 18446744073709551616) (he : e < 18446744073709551616) (hd : (b - 1) ^^^ e ≠ 0) (hD : Pl.dcut b e = D) (w : World) :
    Calls Tryf.prog 54 #[.int .u64 b, .int .u64 e] w fun r w' => r = .returned (.tuple #[.int .u64 ((18446744073709551615 - (b - 1)) % 2 ^ D : Nat), .int .u64 (e % 2 ^ D : Nat)]) ∧ w = w' := by
  have hx : IntKind.u64.wrap ((b : Int) - 1) = ((b - 1 : Nat) : Int) := by rw [IntKind.wrap_u64]; omega
  have hxor : bits BinOp.xor IntKind.u64 ((b - 1 : Nat) : Int) (e : Int) = (((b - 1) ^^^ e : Nat) : Int) := u64_xor_nat _ _ (by omega) he
  have hlt : (b - 1) ^^^ e < 18446744073709551616 := Nat.xor_lt_two_pow (n := 64) (by omega) he
  have hn := not_n (b - 1) (by omega)
  unfold Pl.dcut at hD
  generalize (b - 1) ^^^ e = d at *
  have hl := Pl.blen_le (n := d) (k := 64) hlt
  have hp := Pl.blen_pos hd
  have hD3 : D ≤ 63 := by omega
  have h1 : wrap64 (((bitLen d : Nat) : Int) - 1) = (D : Int) := by unfold wrap64; omega
  have h2 : IntKind.u64.wrap (D : Int) = (D : Int) := wrapN D (by omega)
  obtain ⟨h4, h5⟩ := pow_wrap D hD3
  have h6 := and_mask (18446744073709551615 - (b - 1)) D (by omega) hD3
  have h7 := and_mask e D he hD3
  have h3 : min D 64 = D := by omega
  generalize (18446744073709551615 - (b - 1)) % 2 ^ D = l at *
  generalize e % 2 ^ D = r at *
  generalize 18446744073709551615 - (b - 1) = nb at *
  generalize 2 ^ D - 1 = mk at *
  have HL := len_c d hlt
  clear hl hp hD hd hlt hb1 hb he
  go_enter Tryf.func54, Tryf.ntmps54
  go_wp2_with (go_at_call 58; refine (HL _).mono ?_; rintro e w' ⟨rfl, rfl⟩)
  go_ret2
  exact ⟨rfl, rfl⟩

/-- Where the range is in order. -/
theorem dec_c (b e : Nat) (h : b ≤ e) (he : e < 18446744073709551616) (w : World) :
    Calls Tryf.prog 54 #[.int .u64 b, .int .u64 e] w fun r w' => r = .returned (.tuple #[.int .u64 (Pl.decL b e), .int .u64 (Pl.decR b e)]) ∧ w = w' := by
  by_cases h0 : b = 0
  · subst h0
    exact dec_zero e w
  · have := dec_pos b e _ (by simp; omega) (by omega) (by omega) he (Pl.xor_ne (by omega)) rfl w
    unfold Pl.decL Pl.decR
    rw [if_neg h0, if_neg h0]
    exact this
/-- Whatever it is asked for: it returns, and the same each time. -/
theorem dec_any (b e : Nat) (hb : b < 18446744073709551616) (he : e < 18446744073709551616) : ∃ l r : Int, ∀ w : World,
    Calls Tryf.prog 54 #[.int .u64 b, .int .u64 e] w fun q w' => q = .returned (.tuple #[.int .u64 l, .int .u64 r]) ∧ w = w' := by
  by_cases h0 : b = 0
  · subst h0
    exact ⟨_, _, dec_zero e⟩
  · by_cases hd : (b - 1) ^^^ e = 0
    · have hx : IntKind.u64.wrap ((b : Int) - 1) = ((b - 1 : Nat) : Int) := by rw [IntKind.wrap_u64]; omega
      have hxor : bits BinOp.xor IntKind.u64 ((b - 1 : Nat) : Int) (e : Int) = ((0 : Nat) : Int) := by rw [← hd]; exact u64_xor_nat _ _ (by omega) he
      have hb0 : ((b : Int) == 0) = false := by simp; omega
      have HL := len_c 0 (by omega)
      rw [Pl.blen_zero] at HL
      clear hd hb he h0
      obtain ⟨m, hm⟩ : ∃ m : Int, IntKind.u64.wrap (IntKind.u64.wrap (2 ^ min (IntKind.u64.wrap (-1)).toNat 64) - 1) = m := ⟨_, rfl⟩
      refine ⟨bits .and .u64 (bits .xor .u64 IntKind.u64.max ((b - 1 : Nat) : Int)) m, bits .and .u64 e m, fun w => ?_⟩
      go_enter Tryf.func54, Tryf.ntmps54
      go_wp2_with (go_at_call 58; refine (HL _).mono ?_; rintro e w' ⟨rfl, rfl⟩)
      go_ret2
      exact ⟨rfl, rfl⟩
    · exact ⟨_, _, dec_pos b e _ (by simp; omega) (by omega) hb he hd rfl⟩
theorem pop_le (x : Nat) : Pl.pop64 x ≤ 64 := Pl.pop_le 64 x
theorem size_c (b e : Nat) (h : b ≤ e) (he : e < 18446744073709551616) (w : World) :
    Calls Tryf.prog 42 #[.int .u64 b, .int .u64 e] w fun q w' => q = .returned (.int .i64 ((Pl.pieces b e).length : Nat)) ∧ w = w' := by
  have hc := Pl.dec_count b e h he
  have hl := Pl.dec_lt b e he
  have HD := dec_c b e h he
  obtain ⟨l, hl'⟩ : ∃ l, l = Pl.decL b e := ⟨_, rfl⟩
  obtain ⟨r, hr'⟩ : ∃ r, r = Pl.decR b e := ⟨_, rfl⟩
  rw [← hl', ← hr'] at hc hl HD
  have p1 := pop_le l
  have p2 := pop_le r
  rw [hc]
  have H1 := ones_c l hl.1
  have H2 := ones_c r hl.2
  have HD' : Hid (∀ w : World, Calls Tryf.prog 54 #[.int .u64 b, .int .u64 e] w fun q w' => q = .returned (.tuple #[.int .u64 l, .int .u64 r]) ∧ w = w') := HD
  clear hl' hr' hc hl h he HD
  generalize Pl.pop64 l = pl at *
  generalize Pl.pop64 r = pr at *
  go_enter Tryf.func42, Tryf.ntmps42
  go_wp2_with fail
  refine (HD'.out _).mono ?_; rintro e w' ⟨rfl, rfl⟩
  go_wp2_with fail
  refine (H1 _).mono ?_; rintro e w' ⟨rfl, rfl⟩
  go_wp2_with fail
  refine (H2 _).mono ?_; rintro e w' ⟨rfl, rfl⟩
  go_wp2_with fail
  go_ret
  exact ⟨by simp, rfl⟩
end Go.Proofs.YtpdmmmcelkinjaaFmt
