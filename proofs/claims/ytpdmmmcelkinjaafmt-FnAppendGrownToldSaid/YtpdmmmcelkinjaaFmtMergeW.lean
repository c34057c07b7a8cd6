/- compact.getMergePath. -/
import Derived.Test.YtpdmmmcelkinjaaFmtTz
import Derived.Test.YtpdmmmcelkinjaaFmtGrowP
import Derived.Lib.Hide
import Derived.IntWalk
namespace Go.Proofs.YtpdmmmcelkinjaaFmt
open Go.ChangeShapes Go.WideShapes Go.ChangeAt Go.RowKit
set_option maxRecDepth 20000
theorem tz_zero (w : World) : Calls Tryf.prog 56 #[.int .u64 ((0 : Nat) : Int)] w fun e w' => e = .returned (.int .i64 ((64 : Nat) : Int)) ∧ w = w' := by
  go_enter Tryf.func56, Tryf.ntmps56
  go_wp2
  go_ret
  exact ⟨rfl, rfl⟩
namespace Pl
/-- The merge path's ends, as the program reckons them. -/
def lo (e : Nat) : Nat := if e = 0 then 64 else Lib.ctz 64 e
def hi (b e n : Nat) : Nat := min (if b = 0 then 64 else bitLen (e ^^^ (b - 1))) (bitLen ((if e = 0 then 18446744073709551615 else e - 1) ^^^ n))
end Pl
set_option maxHeartbeats 1000000 in
theorem merge_c (b e n : Nat) (hb : b ≤ e) (hen : e < n) (he : n < 18446744073709551615) (w : World) (hT : Tab w) :
    Calls Tryf.prog 57 #[.int .u64 (b : Int), .int .u64 (e : Int), .int .u64 (n : Int)] w fun r w' => r = .returned (.tuple #[.int .u64 ((Pl.lo e : Nat) : Int), .int .u64 ((Pl.hi b e n - 1 : Nat) : Int)]) ∧ w = w' := by
  have HTz : Hid (Calls Tryf.prog 56 #[.int .u64 (e : Int)] w fun r w' => r = .returned (.int .i64 ((Pl.lo e : Nat) : Int)) ∧ w = w') := by
    unfold Pl.lo
    by_cases h0 : e = 0
    · subst h0; exact tz_zero w
    · rw [if_neg h0]; exact tz_c e h0 (by omega) w hT
  obtain ⟨em, hem⟩ : ∃ em, em = if e = 0 then 18446744073709551615 else e - 1 := ⟨_, rfl⟩
  have hem2 : em < 18446744073709551616 := by rw [hem]; split <;> omega
  have w1 : IntKind.u64.wrap ((e : Int) - 1) = (em : Int) := by
    rw [hem, IntKind.wrap_u64]
    by_cases h0 : e = 0
    · subst h0; decide
    · rw [if_neg h0]; omega
  have x2 := u64_xor_nat em n hem2 (by omega)
  have hx2 : em ^^^ n < 18446744073709551616 := Nat.xor_lt_two_pow (n := 64) (by omega) (by omega)
  have HL2 := Lib.hid (fun w => len_c (em ^^^ n) hx2 w)
  have hlo : Pl.lo e ≤ 64 := by
    unfold Pl.lo
    split
    · omega
    · have := ctz_odd e (by assumption) (by omega)
      omega
  have hne : em ≠ n := by rw [hem]; split <;> omega
  have hp2 := Pl.xor_pos hne
  have hb2 : bitLen (em ^^^ n) ≤ 64 := Pl.blen_le (by simpa using hx2)
  have hb2' : 0 < bitLen (em ^^^ n) := by rw [Pl.blen_step hp2]; omega
  have hhi : Pl.hi b e n = min (if b = 0 then 64 else bitLen (e ^^^ (b - 1))) (bitLen (em ^^^ n)) := by unfold Pl.hi; rw [← hem]
  rw [hhi]
  have w3 : IntKind.u64.wrap ((Pl.lo e : Nat) : Int) = ((Pl.lo e : Nat) : Int) := wrapN _ (by omega)
  generalize Pl.lo e = lo at *
  generalize bitLen (em ^^^ n) = l2 at *
  generalize em ^^^ n = q2 at *
  clear hhi hem hem2 hne hp2 hx2 hT
  have hle : b ≤ e ∧ e < 18446744073709551616 := ⟨hb, by omega⟩
  clear he
  clear hen
  by_cases h0 : b = 0
  · subst h0
    rw [if_pos rfl]
    by_cases hlt : l2 < 64
    · have hl : (l2 : Int) < 64 := by omega
      have hm : min 64 l2 = l2 := by omega
      rw [hm]
      have w4 : IntKind.i64.wrap ((l2 : Int) - 1) = ((l2 - 1 : Nat) : Int) := by rw [IntWalk.i64_in _ (by omega)]; omega
      have w5 : IntKind.u64.wrap ((l2 - 1 : Nat) : Int) = ((l2 - 1 : Nat) : Int) := wrapN _ (by omega)
      generalize l2 - 1 = l3 at *
      clear hm hlt hb hb2 hb2' hlo hle
      go_enter Tryf.func57, Tryf.ntmps57
      go_wp2_with fail
      refine HTz.out.mono ?_; rintro r w' ⟨rfl, rfl⟩
      go_wp2_with fail
      refine (HL2.out _).mono ?_; rintro r w' ⟨rfl, rfl⟩
      go_wp2_with fail
      go_ret2
      exact ⟨rfl, rfl⟩
    · have hl : ¬ (l2 : Int) < 64 := by omega
      have hm : min 64 l2 - 1 = 63 := by omega
      rw [hm]
      clear hm hlt hb hb2 hb2' hlo hle
      go_enter Tryf.func57, Tryf.ntmps57
      go_wp2_with fail
      refine HTz.out.mono ?_; rintro r w' ⟨rfl, rfl⟩
      go_wp2_with fail
      refine (HL2.out _).mono ?_; rintro r w' ⟨rfl, rfl⟩
      go_wp2_with fail
      go_ret2
      exact ⟨rfl, rfl⟩
  · rw [if_neg h0]
    have wb : IntKind.u64.wrap ((b : Int) - 1) = ((b - 1 : Nat) : Int) := by rw [IntKind.wrap_u64]; omega
    have x1 := u64_xor_nat e (b - 1) (by omega) (by omega)
    have hx1 : e ^^^ (b - 1) < 18446744073709551616 := Nat.xor_lt_two_pow (n := 64) (by omega) (by omega)
    have HL1 := Lib.hid (fun w => len_c (e ^^^ (b - 1)) hx1 w)
    have hp1 := Pl.xor_pos (show e ≠ b - 1 by omega)
    have hb1 : bitLen (e ^^^ (b - 1)) ≤ 64 := Pl.blen_le (by simpa using hx1)
    have hb1' : 0 < bitLen (e ^^^ (b - 1)) := by rw [Pl.blen_step hp1]; omega
    generalize bitLen (e ^^^ (b - 1)) = l1 at *
    generalize e ^^^ (b - 1) = q1 at *
    generalize b - 1 = b1 at *
    have hbn : ¬ (b : Int) = 0 := by omega
    have hbn2 : ((b : Int) != 0) = true := by simp; omega
    by_cases hlt : l2 < l1
    · have hl : (l2 : Int) < (l1 : Int) := by omega
      have hm : min l1 l2 = l2 := by omega
      rw [hm]
      have w4 : IntKind.i64.wrap ((l2 : Int) - 1) = ((l2 - 1 : Nat) : Int) := by rw [IntWalk.i64_in _ (by omega)]; omega
      have w5 : IntKind.u64.wrap ((l2 - 1 : Nat) : Int) = ((l2 - 1 : Nat) : Int) := wrapN _ (by omega)
      generalize l2 - 1 = l3 at *
      clear hm hlt hb hb2 hb2' hlo hle hb1 hb1' hp1 hx1 h0
      go_enter Tryf.func57, Tryf.ntmps57
      go_wp2_with fail
      refine HTz.out.mono ?_; rintro r w' ⟨rfl, rfl⟩
      go_wp2_with fail
      refine (HL1.out _).mono ?_; rintro r w' ⟨rfl, rfl⟩
      go_wp2_with fail
      refine (HL2.out _).mono ?_; rintro r w' ⟨rfl, rfl⟩
      go_wp2_with fail
      go_ret2
      exact ⟨rfl, rfl⟩
    · have hl : ¬ (l2 : Int) < (l1 : Int) := by omega
      have hm : min l1 l2 = l1 := by omega
      rw [hm]
      have w4 : IntKind.i64.wrap ((l1 : Int) - 1) = ((l1 - 1 : Nat) : Int) := by rw [IntWalk.i64_in _ (by omega)]; omega
      have w5 : IntKind.u64.wrap ((l1 - 1 : Nat) : Int) = ((l1 - 1 : Nat) : Int) := wrapN _ (by omega)
      generalize l1 - 1 = l3 at *
      clear hm hlt hb hb2 hb2' hlo hle hb1 hb1' hp1 hx1 h0
      go_enter Tryf.func57, Tryf.ntmps57
      go_wp2_with fail
      refine HTz.out.mono ?_; rintro r w' ⟨rfl, rfl⟩
      go_wp2_with fail
      refine (HL1.out _).mono ?_; rintro r w' ⟨rfl, rfl⟩
      go_wp2_with fail
      refine (HL2.out _).mono ?_; rintro r w' ⟨rfl, rfl⟩
      go_wp2_with fail
      go_ret2
      exact ⟨rfl, rfl⟩
namespace Pl
theorem blen_iff (z n : Nat) : n < bitLen z ↔ z / 2 ^ n ≠ 0 := by
  constructor
  · intro h h0
    have h1 : z < 2 ^ n := by
      rcases Nat.lt_or_ge z (2 ^ n) with h | h
      · exact h
      · have := Nat.div_pos h (Nat.two_pow_pos n); omega
    have := blen_le h1
    omega
  · intro h
    refine blen_gt ?_
    rcases Nat.lt_or_ge z (2 ^ n) with h1 | h1
    · exact absurd (Nat.div_eq_of_lt h1) h
    · exact h1
theorem xor_div (x y n : Nat) : (x ^^^ y) / 2 ^ n ≠ 0 ↔ x / 2 ^ n ≠ y / 2 ^ n := by
  rw [show (x ^^^ y) / 2 ^ n = x / 2 ^ n ^^^ y / 2 ^ n by rw [← Nat.shiftRight_eq_div_pow, Nat.shiftRight_xor_distrib, Nat.shiftRight_eq_div_pow, Nat.shiftRight_eq_div_pow]]
  constructor
  · intro h e; rw [e, Nat.xor_self] at h; exact h rfl
  · intro h e; have := xor_pos h; omega
theorem div_pred {m n : Nat} (h : m % 2 ^ n ≠ 0) : (m - 1) / 2 ^ n = m / 2 ^ n := by
  have hp := Nat.two_pow_pos n
  have e1 := Nat.div_add_mod m (2 ^ n)
  have e2 := Nat.mod_lt m hp
  generalize m / 2 ^ n = q at *
  generalize m % 2 ^ n = r at *
  apply Nat.div_eq_of_lt_le
  · rw [Nat.mul_comm]; omega
  · rw [Nat.add_mul, Nat.one_mul, Nat.mul_comm q]; omega
theorem odd_part {c q n : Nat} (h : c < n) : 2 ^ c * (2 * q + 1) % 2 ^ n ≠ 0 := by
  intro h0
  obtain ⟨d, rfl⟩ : ∃ d, n = c + 1 + d := ⟨n - (c + 1), by omega⟩
  obtain ⟨a, ha⟩ := Nat.dvd_of_mod_eq_zero h0
  rw [Nat.pow_add, Nat.pow_succ, Nat.mul_assoc, Nat.mul_assoc] at ha
  have := Nat.eq_of_mul_eq_mul_left (Nat.two_pow_pos c) ha
  omega
end Pl
/-- The path's ends tell how many pieces are merged. -/
theorem path_any {b m e l t : Nat} (hb : b ≤ m) (hm : m < e) (he : e < 18446744073709551616) (hj : Pl.jz 64 b m e = (l, t)) : Pl.hi b m e - 1 - Pl.lo m = t ∧ (0 < t → Pl.lo m = l) ∧ Pl.hi b m e ≤ 64 := by
  obtain ⟨c1, c2, c3, c4⟩ := Pl.jz_cov 64 b m e hb hm (by omega)
  rw [hj] at c1 c2 c3 c4
  simp only [] at c1 c2 c3 c4
  have hB : Pl.hi b m e ≤ 64 := by
    unfold Pl.hi
    refine Nat.le_trans (Nat.min_le_left _ _) ?_
    split
    · exact Nat.le_refl _
    · exact Pl.blen_le (Nat.xor_lt_two_pow (n := 64) (by omega) (by omega))
  have hle : l ≤ Pl.lo m := by
    unfold Pl.lo
    split
    · omega
    · obtain ⟨q, hq, hk⟩ := ctz_odd m (by assumption) (by omega)
      generalize Lib.ctz 64 m = c at *
      rcases Nat.lt_or_ge c l with h | h
      · rw [hq] at c2; exact absurd c2 (Pl.odd_part h)
      · exact h
  have key : ∀ n, Pl.lo m < n → (Pl.Cov b m e n ↔ n < Pl.hi b m e) := by
    intro n hn
    by_cases h0 : m = 0
    · subst h0
      have h64 : 64 < n := hn
      refine ⟨fun h => ?_, fun h => by omega⟩
      have h2 := h.2
      have := Nat.pow_le_pow_right (n := 2) (by decide) (show 64 ≤ n by omega)
      rw [Nat.zero_div, Nat.zero_add, Nat.one_mul] at h2
      omega
    · have hz : m % 2 ^ n ≠ 0 := by
        unfold Pl.lo at hn
        rw [if_neg h0] at hn
        obtain ⟨q, hq, hk⟩ := ctz_odd m h0 (by omega)
        generalize Lib.ctz 64 m = c at *
        rw [hq]
        exact Pl.odd_part hn
      have hp := Nat.two_pow_pos n
      have hd := Pl.div_pred hz
      have k2 : (m / 2 ^ n + 1) * 2 ^ n ≤ e ↔ n < bitLen ((m - 1) ^^^ e) := by
        rw [Pl.blen_iff, Pl.xor_div, hd, ← Nat.le_div_iff_mul_le hp]
        have := Nat.div_le_div_right (c := 2 ^ n) (Nat.le_of_lt hm)
        omega
      have k1 : b ≤ m / 2 ^ n * 2 ^ n ↔ n < (if b = 0 then 64 else bitLen (m ^^^ (b - 1))) ∨ (b = 0 ∧ 64 ≤ n) := by
        split
        · subst b; simp; omega
        · rw [Pl.blen_iff, Pl.xor_div]
          have h1 : b ≤ m / 2 ^ n * 2 ^ n ↔ (b - 1) / 2 ^ n < m / 2 ^ n := by rw [Nat.div_lt_iff_lt_mul hp]; omega
          have := Nat.div_le_div_right (c := 2 ^ n) (show b - 1 ≤ m by omega)
          rw [h1]; omega
      unfold Pl.Cov Pl.hi
      rw [if_neg h0, k1, k2]
      have hx : bitLen ((m - 1) ^^^ e) ≤ 64 := Pl.blen_le (Nat.xor_lt_two_pow (n := 64) (by omega) (by omega))
      generalize bitLen ((m - 1) ^^^ e) = x2 at *
      generalize (if b = 0 then 64 else bitLen (m ^^^ (b - 1))) = x1 at *
      omega
  refine ⟨?_, fun ht => ?_, hB⟩
  · rcases Nat.eq_zero_or_pos t with h0 | h0
    · have h1 := (key (Pl.lo m + 1) (by omega)).symm.trans (c1 _)
      omega
    · have hl : Pl.lo m = l := by
        rcases Nat.lt_or_ge l (Pl.lo m) with h | h
        · exfalso
          have ho := c3 h0
          unfold Pl.lo at h
          split at h
          · subst m; simp at ho
          · obtain ⟨q, hq, hk⟩ := ctz_odd m (by assumption) (by omega)
            generalize Lib.ctz 64 m = c at *
            obtain ⟨d, rfl⟩ : ∃ d, c = l + 1 + d := ⟨c - (l + 1), by omega⟩
            rw [hq, Nat.pow_add, Nat.pow_succ, Nat.mul_assoc, Nat.mul_assoc, Nat.mul_div_cancel_left _ (Nat.two_pow_pos l)] at ho
            omega
        · omega
      have h1 := (key (l + t) (by omega)).symm.trans (c1 _)
      have h2 := (key (l + t + 1) (by omega)).symm.trans (c1 _)
      omega
  · rcases Nat.lt_or_ge l (Pl.lo m) with h | h
    · exfalso
      have ho := c3 ht
      unfold Pl.lo at h
      split at h
      · subst m; simp at ho
      · obtain ⟨q, hq, hk⟩ := ctz_odd m (by assumption) (by omega)
        generalize Lib.ctz 64 m = c at *
        obtain ⟨d, rfl⟩ : ∃ d, c = l + 1 + d := ⟨c - (l + 1), by omega⟩
        rw [hq, Nat.pow_add, Nat.pow_succ, Nat.mul_assoc, Nat.mul_assoc, Nat.mul_div_cancel_left _ (Nat.two_pow_pos l)] at ho
        omega
    · omega
end Go.Proofs.YtpdmmmcelkinjaaFmt
