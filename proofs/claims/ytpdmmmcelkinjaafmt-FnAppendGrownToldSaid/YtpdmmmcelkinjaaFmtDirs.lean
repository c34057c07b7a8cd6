/- The two parts of an inclusion proof, in plain numbers. -/
import Derived.Test.YtpdmmmcelkinjaaFmtParts
open Go
namespace Go.Proofs.YtpdmmmcelkinjaaFmt.Pl
/-- Where the path of a leaf meets that of the last one. -/
def inn (i n : Nat) : Nat := bitLen (i ^^^ (n - 1))
def bord (i n : Nat) : Nat := pop64 (i / 2 ^ inn i n)
theorem pop_zero : ∀ f, pop f 0 = 0
  | 0 => rfl
  | f + 1 => by rw [pop, Nat.zero_div, pop_zero f]
theorem pop_top {k x : Nat} (hk : k < 64) (hx : x < 2 ^ k) : pop64 (2 ^ k + x) = pop64 x + 1 := by
  have h : ∀ y, pop64 y = pop k y + pop (64 - k) (y / 2 ^ k) := fun y => by
    unfold pop64
    conv => lhs; rw [show (64 : Nat) = k + (64 - k) by omega, pop_add]
  have hp := Nat.two_pow_pos k
  rw [h, h x, Nat.div_eq_of_lt hx]
  have e1 : (2 ^ k + x) / 2 ^ k = 1 := Nat.div_eq_of_lt_le (by omega) (by omega)
  have e2 : pop k (2 ^ k + x) = pop k x := by
    rw [← pop_mod k (2 ^ k + x), Nat.add_mod_left, Nat.mod_eq_of_lt hx]
  rw [e1, e2, show 64 - k = (63 - k) + 1 by omega, pop, show (1 : Nat) / 2 = 0 by omega, pop_zero, pop_zero]
theorem lowbits_mod : ∀ (j x c : Nat), lowbits j (x + 2 ^ j * c) = lowbits j x := by
  intro j
  induction j with
  | zero => intro x c; rfl
  | succ j ih =>
    intro x c
    rw [lowbits, lowbits, show (x + 2 ^ (j + 1) * c) / 2 = x / 2 + 2 ^ j * c by rw [Nat.pow_succ, Nat.mul_comm (2 ^ j) 2, Nat.mul_assoc]; omega, ih,
      show (x + 2 ^ (j + 1) * c) % 2 = x % 2 by rw [Nat.pow_succ, Nat.mul_comm (2 ^ j) 2, Nat.mul_assoc]; omega]
theorem dirs_pow : ∀ (j i : Nat), i < 2 ^ j → dirs i (2 ^ j) = lowbits j i
  | 0, i, h => by
    have : i = 0 := by simpa using h
    subst this
    rw [Nat.pow_zero, dirs_one]; rfl
  | j + 1, i, h => by
    have hp := Nat.two_pow_pos j
    have h2 : 2 ≤ 2 ^ (j + 1) := by rw [Nat.pow_succ]; omega
    have hk : 2 ^ (j + 1) = 2 ^ j + 2 ^ j := by rw [Nat.pow_succ]; omega
    have hs := split_pow j
    rw [lowbits_snoc]
    by_cases hi : i < 2 ^ j
    · rw [dirs_l h2 (by omega), hs, dirs_pow j i hi, Nat.div_eq_of_lt hi]; rfl
    · rw [dirs_r h2 (by omega), hs, show 2 ^ (j + 1) - 2 ^ j = 2 ^ j by omega, dirs_pow j (i - 2 ^ j) (by omega)]
      have e1 : i / 2 ^ j = 1 := Nat.div_eq_of_lt_le (by omega) (by omega)
      rw [e1]
      have e2 : lowbits j (i - 2 ^ j) = lowbits j i := by
        have h3 := lowbits_mod j (i - 2 ^ j) 1
        rw [Nat.mul_one, Nat.sub_add_cancel (by omega)] at h3
        exact h3.symm
      rw [e2]; rfl
theorem xor_top {j x y : Nat} (hx : x < 2 ^ j) (hy : y < 2 ^ j) : (2 ^ j + x) ^^^ (2 ^ j + y) = x ^^^ y := by
  apply Nat.eq_of_testBit_eq
  intro i
  have h : ∀ z, z < 2 ^ j → (2 ^ j + z).testBit i = if i < j then z.testBit i else decide (i = j) := fun z hz => by
    have := Nat.testBit_two_pow_mul_add 1 hz i
    rw [Nat.mul_one] at this
    rw [this]
    split
    · rfl
    · rename_i hge
      by_cases e : i = j
      · subst e; simp
      · rw [Nat.testBit_lt_two_pow (Nat.one_lt_two_pow (by omega))]; simp [e]
  rw [Nat.testBit_xor, Nat.testBit_xor, h x hx, h y hy]
  split
  · rfl
  · rename_i hge
    have : ∀ z, z < 2 ^ j → z.testBit i = false := fun z hz => Nat.testBit_lt_two_pow (Nat.lt_of_lt_of_le hz (Nat.pow_le_pow_right (by decide) (by omega)))
    rw [this x hx, this y hy]; simp
theorem xor_bit_top {j x y : Nat} (hx : x < 2 ^ j) (hy : y < 2 ^ j) : 2 ^ j ≤ x ^^^ (2 ^ j + y) ∧ x ^^^ (2 ^ j + y) < 2 ^ (j + 1) := by
  constructor
  · have h : (x ^^^ (2 ^ j + y)).testBit j = true := by
      have := Nat.testBit_two_pow_mul_add 1 hy j
      rw [Nat.mul_one] at this
      rw [Nat.testBit_xor, this, Nat.testBit_lt_two_pow hx]; simp
    exact Nat.ge_two_pow_of_testBit h
  · exact Nat.xor_lt_two_pow (by rw [Nat.pow_succ]; omega) (by rw [Nat.pow_succ]; omega)
set_option maxHeartbeats 1000000 in
theorem dirs_eq (n : Nat) : ∀ i, i < n → n < 18446744073709551616 → dirs i n = lowbits (inn i n) i ++ List.replicate (bord i n) true := by
  induction n using Nat.strongRecOn with
  | ind n ih =>
    intro i hi hn
    by_cases h2 : 2 ≤ n
    · obtain ⟨s1, s2⟩ := split_spec h2
      have hsp : split n = 2 ^ slog n := rfl
      rw [hsp] at s1 s2
      generalize slog n = j at *
      have hp := Nat.two_pow_pos j
      have hj : j < 64 := by
        rcases Nat.lt_or_ge j 64 with h | h
        · exact h
        · have : 2 ^ 64 ≤ 2 ^ j := Nat.pow_le_pow_right (by decide) h
          omega
      obtain ⟨y, hy⟩ : ∃ y, n - 1 = 2 ^ j + y := ⟨n - 1 - 2 ^ j, by omega⟩
      by_cases hlt : i < 2 ^ j
      · have hx := xor_bit_top hlt (show y < 2 ^ j by omega)
        have e1 : inn i n = j + 1 := by
          unfold inn
          rw [hy]
          have a := blen_le hx.2
          have b := blen_gt hx.1
          omega
        have e2 : bord i n = 0 := by
          unfold bord
          rw [e1, Nat.div_eq_of_lt (by rw [Nat.pow_succ]; omega)]
          exact pop_zero 64
        rw [dirs_l h2 (by omega), hsp, dirs_pow j i hlt, e1, e2, lowbits_snoc, Nat.div_eq_of_lt hlt]
        simp
      · obtain ⟨x, rfl⟩ : ∃ x, i = 2 ^ j + x := ⟨i - 2 ^ j, by omega⟩
        have e1 : inn (2 ^ j + x) n = inn x (n - 2 ^ j) := by
          unfold inn
          rw [hy, xor_top (by omega) (by omega), show n - 2 ^ j - 1 = y by omega]
        have hle : inn x (n - 2 ^ j) ≤ j := by
          unfold inn
          exact blen_le (Nat.xor_lt_two_pow (by omega) (by omega))
        have e2 : bord (2 ^ j + x) n = bord x (n - 2 ^ j) + 1 := by
          unfold bord
          rw [e1]
          generalize inn x (n - 2 ^ j) = d at *
          have hd : (2 ^ j + x) / 2 ^ d = 2 ^ (j - d) + x / 2 ^ d := by
            rw [show 2 ^ j = 2 ^ d * 2 ^ (j - d) by rw [← Nat.pow_add]; congr 1; omega, Nat.mul_add_div (Nat.two_pow_pos d)]
          rw [hd]
          exact pop_top (by omega) ((Nat.div_lt_iff_lt_mul (Nat.two_pow_pos d)).2 (by rw [← Nat.pow_add, show j - d + d = j by omega]; omega))
        have e3 : lowbits (inn x (n - 2 ^ j)) (2 ^ j + x) = lowbits (inn x (n - 2 ^ j)) x := by
          generalize inn x (n - 2 ^ j) = d at *
          have h3 := lowbits_mod d x (2 ^ (j - d))
          rw [← Nat.pow_add, show d + (j - d) = j by omega, Nat.add_comm x] at h3
          exact h3
        rw [dirs_r h2 (by omega), hsp, Nat.add_sub_cancel_left, ih (n - 2 ^ j) (by omega) x (by omega) (by omega), e1, e2, e3, List.append_assoc]
        rw [show ∀ b : Nat, List.replicate (b + 1) true = List.replicate b true ++ [true] from fun b => List.replicate_succ']
    · have hn1 : n = 1 := by omega
      have hi0 : i = 0 := by omega
      subst hn1 hi0
      rw [dirs_one]
      have e1 : inn 0 1 = 0 := by unfold inn; simp [blen_zero]
      have e2 : bord 0 1 = 0 := by unfold bord; rw [e1, Nat.zero_div]; exact pop_zero 64
      rw [e1, e2]; rfl
theorem dirs_len (i n : Nat) (hi : i < n) (hn : n < 18446744073709551616) : (dirs i n).length = inn i n + bord i n := by
  rw [dirs_eq n i hi hn]; simp [lowbits_length]
end Go.Proofs.YtpdmmmcelkinjaaFmt.Pl
