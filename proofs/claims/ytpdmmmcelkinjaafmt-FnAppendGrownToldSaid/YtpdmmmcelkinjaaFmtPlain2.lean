/- Plain facts on how the nodes of a range are told by the two masks. -/
import Derived.Test.YtpdmmmcelkinjaaFmtPlain
open Go
namespace Go.Proofs.YtpdmmmcelkinjaaFmt.Pl
/-- A set bit is struck by xor. -/
theorem xor_bit : ∀ (t m : Nat), m / 2 ^ t % 2 = 1 → m ^^^ 2 ^ t = m - 2 ^ t ∧ 2 ^ t ≤ m
  | 0, m, h => by
    rw [Nat.pow_zero, Nat.div_one] at h
    have := xor1 m
    rw [if_pos h] at this
    exact ⟨this, by simp; omega⟩
  | t + 1, m, h => by
    have hp : 2 ^ (t + 1) = 2 * 2 ^ t := by rw [Nat.pow_succ, Nat.mul_comm]
    have h' : m / 2 / 2 ^ t % 2 = 1 := by rw [Nat.div_div_eq_div_mul, ← hp]; exact h
    obtain ⟨i1, i2⟩ := xor_bit t (m / 2) h'
    have e1 : (m ^^^ 2 ^ (t + 1)) / 2 = m / 2 ^^^ 2 ^ t := by rw [xor_half, hp, Nat.mul_div_cancel_left _ (by omega)]
    have e2 : (m ^^^ 2 ^ (t + 1)) % 2 = m % 2 := by
      have h : (m ^^^ 2 ^ (t + 1)) % 2 ^ 1 = m % 2 ^ 1 ^^^ 2 ^ (t + 1) % 2 ^ 1 := Nat.xor_mod_two_pow
      rw [Nat.pow_one, hp, Nat.mul_mod_right, Nat.xor_zero] at h
      rw [hp]; exact h
    rw [i1] at e1
    generalize m ^^^ 2 ^ (t + 1) = X at *
    generalize 2 ^ (t + 1) = P at *
    generalize 2 ^ t = Q at *
    omega
theorem odd_mul_bit (t q : Nat) : 2 ^ t * (2 * q + 1) / 2 ^ t % 2 = 1 := by
  rw [Nat.mul_div_cancel_left _ (Nat.two_pow_pos t)]; omega
theorem top_bit (m : Nat) (h : m ≠ 0) : m / 2 ^ (bitLen m - 1) % 2 = 1 ∧ 2 ^ (bitLen m - 1) ≤ m ∧ m < 2 ^ bitLen m := by
  obtain ⟨h1, h2⟩ := bitLen_spec m
  have h3 := h2 h
  have hb := blen_pos h
  have e : 2 ^ bitLen m = 2 ^ (bitLen m - 1) * 2 := by rw [← Nat.pow_succ, show (bitLen m - 1).succ = bitLen m by omega]
  have hp := Nat.two_pow_pos (bitLen m - 1)
  refine ⟨?_, h3, h1⟩
  rw [e] at h1
  have : m / 2 ^ (bitLen m - 1) = 1 := by
    apply Nat.div_eq_of_lt_le <;> omega
  rw [this]

/-- What the loop over the left mask keeps. -/
def LeftOk (D pos left e : Nat) : Prop := D ≤ 64 ∧ left < 2 ^ D ∧ (pos + left) % 2 ^ D = 0 ∧ pos + left ≤ e ∧ e - (pos + left) < 2 ^ D
theorem left_start (b e : Nat) (h : b ≤ e) (he : e < 18446744073709551616) : ∃ D, LeftOk D b (decL b e) e ∧ decR b e = e - (b + decL b e) := by
  have hs := dec_sum b e h he
  by_cases h0 : b = 0
  · subst h0
    refine ⟨64, ⟨Nat.le_refl _, ?_, ?_, ?_, ?_⟩, by omega⟩ <;> simp [decL] <;> omega
  · refine ⟨dcut b e, ⟨?_, ?_, ?_, by omega, ?_⟩, by omega⟩
    · exact cut_lt (x := b - 1) (e := e) (f := 64) (by omega) he
    · unfold decL; rw [if_neg h0]; exact Nat.mod_lt _ (Nat.two_pow_pos _)
    · have hD : dcut b e ≤ 64 := cut_lt (x := b - 1) (e := e) (f := 64) (by omega) he
      unfold decL; rw [if_neg h0]
      have h1 : b + (18446744073709551615 - (b - 1)) = 2 ^ 64 := by omega
      have h2 : 2 ^ dcut b e ∣ 2 ^ 64 := Nat.pow_dvd_pow 2 hD
      rw [Nat.add_mod_mod, h1]
      exact Nat.mod_eq_zero_of_dvd h2
    · have : decR b e < 2 ^ dcut b e := by unfold decR; rw [if_neg h0]; exact Nat.mod_lt _ (Nat.two_pow_pos _)
      omega
theorem left_step {D pos left e t q : Nat} (h : LeftOk D pos left e) (he : e < 18446744073709551616) (hl : left = 2 ^ t * (2 * q + 1)) :
    pieces pos e = (t, pos / 2 ^ t) :: pieces (pos + 2 ^ t) e ∧ left ^^^ 2 ^ t = left - 2 ^ t ∧ LeftOk D (pos + 2 ^ t) (left - 2 ^ t) e ∧ 2 ^ t ≤ left := by
  obtain ⟨hD, h1, h2, h3, h4⟩ := h
  have hb := xor_bit t left (by rw [hl]; exact odd_mul_bit t q)
  have hp := Nat.two_pow_pos t
  have htD : t < D := by
    rcases Nat.lt_or_ge t D with h | h
    · exact h
    · have := Nat.pow_le_pow_right (n := 2) (by omega) h
      omega
  have hm : (pos + left) % 2 ^ (t + 1) = 0 := by
    have hd : 2 ^ (t + 1) ∣ 2 ^ D := Nat.pow_dvd_pow 2 htD
    have := Nat.mod_mod_of_dvd (pos + left) hd
    rw [h2] at this
    simpa using this.symm
  have e1 : 2 ^ (t + 1) = 2 * 2 ^ t := by rw [Nat.pow_succ, Nat.mul_comm]
  obtain ⟨c, hc⟩ := Nat.dvd_of_mod_eq_zero hm
  have hpos : pos = 2 ^ t * (2 * (c - q - 1) + 1) ∧ q + 1 ≤ c := by
    have hcq : q + 1 ≤ c := by
      rcases Nat.lt_or_ge q c with hh | hh
      · exact hh
      · have : 2 ^ (t + 1) * c ≤ 2 ^ (t + 1) * q := Nat.mul_le_mul_left _ hh
        have e2 : left = 2 ^ (t + 1) * q + 2 ^ t := by rw [hl, e1, Nat.mul_add, Nat.mul_one, ← Nat.mul_assoc, Nat.mul_comm (2 ^ t) 2]
        omega
    refine ⟨?_, hcq⟩
    obtain ⟨d, rfl⟩ : ∃ d, c = q + 1 + d := ⟨c - (q + 1), by omega⟩
    have e2 : left = 2 ^ (t + 1) * q + 2 ^ t := by rw [hl, e1, Nat.mul_add, Nat.mul_one, ← Nat.mul_assoc, Nat.mul_comm (2 ^ t) 2]
    rw [show q + 1 + d - q - 1 = d by omega, Nat.mul_add, Nat.mul_one, ← Nat.mul_assoc, Nat.mul_comm (2 ^ t) 2, ← e1]
    have e3 : 2 ^ (t + 1) * (q + 1 + d) = 2 ^ (t + 1) * q + 2 ^ (t + 1) + 2 ^ (t + 1) * d := by rw [Nat.mul_add, Nat.mul_add, Nat.mul_one]
    omega
  have hmod : pos % 2 ^ t = 0 := by rw [hpos.1]; exact Nat.mul_mod_right _ _
  have hmod2 : pos % 2 ^ (t + 1) ≠ 0 := by
    rw [hpos.1, e1, Nat.mul_comm 2 (2 ^ t), Nat.mul_mod_mul_left]
    have : (2 * (c - q - 1) + 1) % 2 = 1 := by omega
    rw [this]; omega
  have hg := pcs_cons 64 0 pos e t (by omega) he hmod (by omega) (.inl hmod2)
  rw [Nat.zero_add] at hg
  refine ⟨hg, hb.1, ⟨hD, by omega, ?_, by omega, ?_⟩, hb.2⟩
  · rw [show pos + 2 ^ t + (left - 2 ^ t) = pos + left by omega]; exact h2
  · rw [show pos + 2 ^ t + (left - 2 ^ t) = pos + left by omega]; exact h4
/-- What the loop over the right mask keeps. -/
def RightOk (pos right e : Nat) : Prop := ∃ D, right < 2 ^ D ∧ pos % 2 ^ D = 0 ∧ pos + right = e
theorem right_start {D pos e : Nat} (h : LeftOk D pos 0 e) : RightOk pos (e - pos) e := by
  obtain ⟨_, _, h2, h3, h4⟩ := h
  exact ⟨D, by simpa using h4, by simpa using h2, by omega⟩
theorem right_step {pos right e : Nat} (h : RightOk pos right e) (he : e < 18446744073709551616) (h0 : right ≠ 0) :
    pieces pos e = (bitLen right - 1, pos / 2 ^ (bitLen right - 1)) :: pieces (pos + 2 ^ (bitLen right - 1)) e ∧ right ^^^ 2 ^ (bitLen right - 1) = right - 2 ^ (bitLen right - 1) ∧
    RightOk (pos + 2 ^ (bitLen right - 1)) (right - 2 ^ (bitLen right - 1)) e ∧ 2 ^ (bitLen right - 1) ≤ right := by
  obtain ⟨D, h1, h2, h3⟩ := h
  obtain ⟨t1, t2, t3⟩ := top_bit right h0
  have hb := xor_bit _ right t1
  have hbl := blen_pos h0
  generalize hL : bitLen right = bl at *
  obtain ⟨t, rfl⟩ : ∃ t, bl = t + 1 := ⟨bl - 1, by omega⟩
  rw [show t + 1 - 1 = t by omega] at *
  have htD : t < D := by
    rcases Nat.lt_or_ge t D with h | h
    · exact h
    · have := Nat.pow_le_pow_right (n := 2) (by omega) h
      omega
  have hm : pos % 2 ^ t = 0 := by
    have hd : 2 ^ t ∣ 2 ^ D := Nat.pow_dvd_pow 2 (by omega)
    have := Nat.mod_mod_of_dvd pos hd
    rw [h2] at this
    simpa using this.symm
  have hp := Nat.two_pow_pos t
  have hg := pcs_cons 64 0 pos e t (by omega) he hm (by omega) (.inr (by omega))
  rw [Nat.zero_add] at hg
  have e1 : 2 ^ (t + 1) = 2 * 2 ^ t := by rw [Nat.pow_succ, Nat.mul_comm]
  refine ⟨hg, hb.1, ⟨t, by omega, ?_, by omega⟩, hb.2⟩
  rw [Nat.add_mod_right]; exact hm
end Go.Proofs.YtpdmmmcelkinjaaFmt.Pl
