/- compact.getMergePath. -/
import Derived.Test.YtpdmmmcelkinjaaFmtTz
import Derived.Test.YtpdmmmcelkinjaaFmtGrowP
import Derived.Lib.Hide
import Derived.IntWalk
namespace Go.Proofs.YtpdmmmcelkinjaaFmt
open Go.ChangeShapes Go.WideShapes Go.ChangeAt Go.RowKit
set_option maxRecDepth 20000
theorem tz_zero (w : World) : Calls Tryf.prog 56 #[.int .u64 ((0 : Nat) : Int)] w fun e w' => e = .returned (.int .i64 ((64 : Nat) : Int)) ∧ w = w' := by
  go_enter Tryf.func56, Tryf.ntmps56
  go_wp2
  go_ret
  exact ⟨rfl, rfl⟩
namespace Pl
/-- The merge path's ends, as the program reckons them. -/
def lo (e : Nat) : Nat := if e = 0 then 64 else Lib.ctz 64 e
def hi (b e n : Nat) : Nat := min (if b = 0 then 64 else bitLen (e ^^^ (b - 1))) (bitLen ((if e = 0 then 18446744073709551615 else e - 1) ^^^ n))
end Pl
set_option maxHeartbeats 1000000 in
theorem merge_c (b e n : Nat) (hb : b ≤ e) (hen : e < n) (he : n < 18446744073709551615) (w : World) (hT : Tab w) :
    Calls Tryf.prog 57 #[.int .u64 (b : Int), .int .u64 (e : Int), .int .u64 (n : Int)] w fun r w' => r = .returned (.tuple #[.int .u64 ((Pl.lo e : Nat) : Int), .int .u64 ((Pl.hi b e n - 1 : Nat) : Int)]) ∧ w = w' := by
  have HTz : Hid (Calls Tryf.prog 56 #[.int .u64 (e : Int)] w fun r w' => r = .returned (.int .i64 ((Pl.lo e : Nat) : Int)) ∧ w = w') := by
    unfold Pl.lo
    by_cases h0 : e = 0
    · subst h0; exact tz_zero w
    · rw [if_neg h0]; exact tz_c e h0 (by omega) w hT
  obtain ⟨em, hem⟩ : ∃ em, em = if e = 0 then 18446744073709551615 else e - 1 := ⟨_, rfl⟩
  have hem2 : em < 18446744073709551616 := by rw [hem]; split <;> omega
  have w1 : IntKind.u64.wrap ((e : Int) - 1) = (em : Int) := by
    rw [hem, IntKind.wrap_u64]
    by_cases h0 : e = 0
    · subst h0; decide
    · rw [if_neg h0]; omega
  have x2 := u64_xor_nat em n hem2 (by omega)
  have hx2 : em ^^^ n < 18446744073709551616 := Nat.xor_lt_two_pow (n := 64) (by omega) (by omega)
  have HL2 := Lib.hid (fun w => len_c (em ^^^ n) hx2 w)
  have hlo : Pl.lo e ≤ 64 := by
    unfold Pl.lo
    split
    · omega
    · have := ctz_odd e (by assumption) (by omega)
      omega
  have hne : em ≠ n := by rw [hem]; split <;> omega
  have hp2 := Pl.xor_pos hne
  have hb2 : bitLen (em ^^^ n) ≤ 64 := Pl.blen_le (by simpa using hx2)
  have hb2' : 0 < bitLen (em ^^^ n) := by rw [Pl.blen_step hp2]; omega
  have hhi : Pl.hi b e n = min (if b = 0 then 64 else bitLen (e ^^^ (b - 1))) (bitLen (em ^^^ n)) := by unfold Pl.hi; rw [← hem]
  rw [hhi]
  have w3 : IntKind.u64.wrap ((Pl.lo e : Nat) : Int) = ((Pl.lo e : Nat) : Int) := wrapN _ (by omega)
  generalize Pl.lo e = lo at *
  generalize bitLen (em ^^^ n) = l2 at *
  generalize em ^^^ n = q2 at *
  clear hhi hem hem2 hne hp2 hx2 hT
  have hle : b ≤ e ∧ e < 18446744073709551616 := ⟨hb, by omega⟩
  clear he
  clear hen
  by_cases h0 : b = 0
  · subst h0
    rw [if_pos rfl]
    by_cases hlt : l2 < 64
    · have hl : (l2 : Int) < 64 := by omega
      have hm : min 64 l2 = l2 := by omega
      rw [hm]
      have w4 : IntKind.i64.wrap ((l2 : Int) - 1) = ((l2 - 1 : Nat) : Int) := by rw [IntWalk.i64_in _ (by omega)]; omega
      have w5 : IntKind.u64.wrap ((l2 - 1 : Nat) : Int) = ((l2 - 1 : Nat) : Int) := wrapN _ (by omega)
      generalize l2 - 1 = l3 at *
      clear hm hlt hb hb2 hb2' hlo hle
      go_enter Tryf.func57, Tryf.ntmps57
      go_wp2_with fail
      refine HTz.out.mono ?_; rintro r w' ⟨rfl, rfl⟩
      go_wp2_with fail
      refine (HL2.out _).mono ?_; rintro r w' ⟨rfl, rfl⟩
      go_wp2_with fail
      go_ret2
      exact ⟨rfl, rfl⟩
    · have hl : ¬ (l2 : Int) < 64 := by omega
      have hm : min 64 l2 - 1 = 63 := by omega
      rw [hm]
      clear hm hlt hb hb2 hb2' hlo hle
      go_enter Tryf.func57, Tryf.ntmps57
      go_wp2_with fail
      refine HTz.out.mono ?_; rintro r w' ⟨rfl, rfl⟩
      go_wp2_with fail
      refine (HL2.out _).mono ?_; rintro r w' ⟨rfl, rfl⟩
      go_wp2_with fail
      go_ret2
      exact ⟨rfl, rfl⟩
  · rw [if_neg h0]
    have wb : IntKind.u64.wrap ((b : Int) - 1) = ((b - 1 : Nat) : Int) := by rw [IntKind.wrap_u64]; omega
    have x1 := u64_xor_nat e (b - 1) (by omega) (by omega)
    have hx1 : e ^^^ (b - 1) < 18446744073709551616 := Nat.xor_lt_two_pow (n := 64) (by omega) (by omega)
    have HL1 := Lib.hid (fun w => len_c (e ^^^ (b - 1)) hx1 w)
    have hp1 := Pl.xor_pos (show e ≠ b - 1 by omega)
    have hb1 : bitLen (e ^^^ (b - 1)) ≤ 64 := Pl.blen_le (by simpa using hx1)
    have hb1' : 0 < bitLen (e ^^^ (b - 1)) := by rw [Pl.blen_step hp1]; omega
    generalize bitLen (e ^^^ (b - 1)) = l1 at *
    generalize e ^^^ (b - 1) = q1 at *
    generalize b - 1 = b1 at *
    have hbn : ¬ (b : Int) = 0 := by omega
    have hbn2 : ((b : Int) != 0) = true := by simp; omega
    by_cases hlt : l2 < l1
    · have hl : (l2 : Int) < (l1 : Int) := by omega
      have hm : min l1 l2 = l2 := by omega
      rw [hm]
      have w4 : IntKind.i64.wrap ((l2 : Int) - 1) = ((l2 - 1 : Nat) : Int) := by rw [IntWalk.i64_in _ (by omega)]; omega
      have w5 : IntKind.u64.wrap ((l2 - 1 : Nat) : Int) = ((l2 - 1 : Nat) : Int) := wrapN _ (by omega)
      generalize l2 - 1 = l3 at *
      clear hm hlt hb hb2 hb2' hlo hle hb1 hb1' hp1 hx1 h0
      go_enter Tryf.func57, Tryf.ntmps57
      go_wp2_with fail
      refine HTz.out.mono ?_; rintro r w' ⟨rfl, rfl⟩
      go_wp2_with fail
      refine (HL1.out _).mono ?_; rintro r w' ⟨rfl, rfl⟩
      go_wp2_with fail
      refine (HL2.out _).mono ?_; rintro r w' ⟨rfl, rfl⟩
      go_wp2_with fail
      go_ret2
      exact ⟨rfl, rfl⟩
    · have hl : ¬ (l2 : Int) < (l1 : Int) := by omega
      have hm : min l1 l2 = l1 := by omega
      rw [hm]
      have w4 : IntKind.i64.wrap ((l1 : Int) - 1) = ((l1 - 1 : Nat) : Int) := by rw [IntWalk.i64_in _ (by omega)]; omega
      have w5 : IntKind.u64.wrap ((l1 - 1 : Nat) : Int) = ((l1 - 1 : Nat) : Int) := wrapN _ (by omega)
      generalize l1 - 1 = l3 at *
      clear hm hlt hb hb2 hb2' hlo hle hb1 hb1' hp1 hx1 h0
      go_enter Tryf.func57, Tryf.ntmps57
      go_wp2_with fail
      refine HTz.out.mono ?_; rintro r w' ⟨rfl, rfl⟩
      go_wp2_with fail
      refine (HL1.out _).mono ?_; rintro r w' ⟨rfl, rfl⟩
      go_wp2_with fail
      refine (HL2.out _).mono ?_; rintro r w' ⟨rfl, rfl⟩
      go_wp2_with fail
      go_ret2
      exact ⟨rfl, rfl⟩
namespace Pl
theorem blen_iff (z n : Nat) : n < bitLen z ↔ z / 2 ^ n ≠ 0 := by
  constructor
  · intro h h0
    have h1 : z < 2 ^ n := by
      rcases Nat.lt_or_ge z (2 ^ n) with h | h
      · exact h
      · have := Nat.div_pos h (Nat.two_pow_pos n); omega
    have := blen_le h1
    omega
  · intro h
    refine blen_gt ?_
    rcases Nat.lt_or_ge z (2 ^ n) with h1 | h1
    · exact absurd (Nat.div_eq_of_lt h1) h
    · exact h1
theorem xor_div (x y n : Nat) : (x ^^^ y) / 2 ^ n ≠ 0 ↔ x / 2 ^ n ≠ y / 2 ^ n := by
  rw [show (x ^^^ y) / 2 ^ n = x / 2 ^ n ^^^ y / 2 ^ n by rw [← Nat.shiftRight_eq_div_pow, Nat.shiftRight_xor_distrib, Nat.shiftRight_eq_div_pow, Nat.shiftRight_eq_div_pow]]
  constructor
  · intro h e; rw [e, Nat.xor_self] at h; exact h rfl
  · intro h e; have := xor_pos h; omega
theorem div_pred {m n : Nat} (h : m % 2 ^ n ≠ 0) : (m - 1) / 2 ^ n = m / 2 ^ n := by
  have hp := Nat.two_pow_pos n
  have e1 := Nat.div_add_mod m (2 ^ n)
  have e2 := Nat.mod_lt m hp
  generalize m / 2 ^ n = q at *
  generalize m % 2 ^ n = r at *
  apply Nat.div_eq_of_lt_le
  · rw [Nat.mul_comm]; omega
  · rw [Nat.add_mul, Nat.one_mul, Nat.mul_comm q]; omega
theorem odd_part {c q n : Nat} (h : c < n) : 2 ^ c * (2 * q + 1) % 2 ^ n ≠ 0 := by
  intro h0
  obtain ⟨d, rfl⟩ : ∃ d, n = c + 1 + d := ⟨n - (c + 1), by omega⟩
  obtain ⟨a, ha⟩ := Nat.dvd_of_mod_eq_zero h0
  rw [Nat.pow_add, Nat.pow_succ, Nat.mul_assoc, Nat.mul_assoc] at ha
  have := Nat.eq_of_mul_eq_mul_left (Nat.two_pow_pos c) ha
  omega
end Pl
/-- The path's ends tell how many pieces are merged. -/
theorem path_any {b m e l t : Nat} (hb : b ≤ m) (hm : m < e) (he : e < 18446744073709551616) (hj : Pl.jz 64 b m e = (l, t)) : Pl.hi b m e - 1 - Pl.lo m = t ∧ (0 < t → Pl.lo m = l) ∧ Pl.hi b m e ≤ 64 := by
  obtain ⟨c1, c2, c3, c4⟩ := Pl.jz_cov 64 b m e hb hm (by omega)
  rw [hj] at c1 c2 c3 c4
  simp only [] at c1 c2 c3 c4
  have hB : Pl.hi b m e ≤ 64 := by
    unfold Pl.hi
    refine Nat.le_trans (Nat.min_le_left _ _) ?_
    split
    · exact Nat.le_refl _
    · exact Pl.blen_le (Nat.xor_lt_two_pow (n := 64) (by omega) (by omega))
  have hle : l ≤ Pl.lo m := by
    unfold Pl.lo
    split
    · omega
    · obtain ⟨q, hq, hk⟩ := ctz_odd m (by assumption) (by omega)
      generalize Lib.ctz 64 m = c at *
      rcases Nat.lt_or_ge c l with h | h
      · rw [hq] at c2; exact absurd c2 (Pl.odd_part h)
      · exact h
  have key : ∀ n, Pl.lo m < n → (Pl.Cov b m e n ↔ n < Pl.hi b m e) := by
    intro n hn
    by_cases h0 : m = 0
    · subst h0
      have h64 : 64 < n := hn
      refine ⟨fun h => ?_, fun h => by omega⟩
      have h2 := h.2
      have := Nat.pow_le_pow_right (n := 2) (by decide) (show 64 ≤ n by omega)
      rw [Nat.zero_div, Nat.zero_add, Nat.one_mul] at h2
      omega
    · have hz : m % 2 ^ n ≠ 0 := by
        unfold Pl.lo at hn
        rw [if_neg h0] at hn
        obtain ⟨q, hq, hk⟩ := ctz_odd m h0 (by omega)
        generalize Lib.ctz 64 m = c at *
        rw [hq]
        exact Pl.odd_part hn
      have hp := Nat.two_pow_pos n
      have hd := Pl.div_pred hz
      have k2 : (m / 2 ^ n + 1) * 2 ^ n ≤ e ↔ n < bitLen ((m - 1) ^^^ e) := by
        rw [Pl.blen_iff, Pl.xor_div, hd, ← Nat.le_div_iff_mul_le hp]
        have := Nat.div_le_div_right (c := 2 ^ n) (Nat.le_of_lt hm)
        omega
      have k1 : b ≤ m / 2 ^ n * 2 ^ n ↔ n < (if b = 0 then 64 else bitLen (m ^^^ (b - 1))) ∨ (b = 0 ∧ 64 ≤ n) := by
        split
        · subst b; simp; omega
        · rw [Pl.blen_iff, Pl.xor_div]
          have h1 : b ≤ m / 2 ^ n * 2 ^ n ↔ (b - 1) / 2 ^ n < m / 2 ^ n := by rw [Nat.div_lt_iff_lt_mul hp]; omega
          have := Nat.div_le_div_right (c := 2 ^ n) (show b - 1 ≤ m by omega)
          rw [h1]; omega
      unfold Pl.Cov Pl.hi
      rw [if_neg h0, k1, k2]
      have hx : bitLen ((m - 1) ^^^ e) ≤ 64 := Pl.blen_le (Nat.xor_lt_two_pow (n := 64) (by omega) (by omega))
      generalize bitLen ((m - 1) ^^^ e) = x2 at *
      generalize (if b = 0 then 64 else bitLen (m ^^^ (b - 1))) = x1 at *
      omega
  refine ⟨?_, fun ht => ?_, hB⟩
  · rcases Nat.eq_zero_or_pos t with h0 | h0
    · have h1 := (key (Pl.lo m + 1) (by omega)).symm.trans (c1 _)
      omega
    · have hl : Pl.lo m = l := by
        rcases Nat.lt_or_ge l (Pl.lo m) with h | h
        · exfalso
          have ho := c3 h0
          unfold Pl.lo at h
          split at h
          · subst m; simp at ho
          · obtain ⟨q, hq, hk⟩ := ctz_odd m (by assumption) (by omega)
            generalize Lib.ctz 64 m = c at *
            obtain ⟨d, rfl⟩ : ∃ d, c = l + 1 + d := ⟨c - (l + 1), by omega⟩
            rw [hq, Nat.pow_add, Nat.pow_succ, Nat.mul_assoc, Nat.mul_assoc, Nat.mul_div_cancel_left _ (Nat.two_pow_pos l)] at ho
            omega
        · omega
      have h1 := (key (l + t) (by omega)).symm.trans (c1 _)
      have h2 := (key (l + t + 1) (by omega)).symm.trans (c1 _)
      omega
  · rcases Nat.lt_or_ge l (Pl.lo m) with h | h
    · exfalso
      have ho := c3 ht
      unfold Pl.lo at h
      split at h
      · subst m; simp at ho
      · obtain ⟨q, hq, hk⟩ := ctz_odd m (by assumption) (by omega)
        generalize Lib.ctz 64 m = c at *
        obtain ⟨d, rfl⟩ : ∃ d, c = l + 1 + d := ⟨c - (l + 1), by omega⟩
        rw [hq, Nat.pow_add, Nat.pow_succ, Nat.mul_assoc, Nat.mul_assoc, Nat.mul_div_cancel_left _ (Nat.two_pow_pos l)] at ho
        omega
    · omega
end Go.Proofs.YtpdmmmcelkinjaaFmt
/- What appendImpl makes of the hashes of two ranges, one behind the other; what it tells as one leaf is put behind a range. -/
open Go
namespace Go.Proofs.YtpdmmmcelkinjaaFmt
namespace Pl
theorem join_law (h : HF) (f : Nat → List Nat) {b m e : Nat} (hb : b ≤ m) (hm : m < e) (he : e < 18446744073709551616) :
    ∃ s0 H2, ph h f m e = s0 :: H2 ∧ merged h (ph h f b m) H2 (m / 2 ^ lo m) s0 (hi b m e - 1 - lo m) = ph h f b e ∧ pop (hi b m e - 1 - lo m) (m / 2 ^ lo m) ≤ (ph h f b m).length ∧ hi b m e - 1 - lo m - pop (hi b m e - 1 - lo m) (m / 2 ^ lo m) ≤ H2.length ∧ hi b m e ≤ 64 ∧
      toldM h (ph h f b m) H2 (m / 2 ^ lo m) s0 (lo m) (hi b m e - 1 - lo m) = (List.range (hi b m e - 1 - lo m)).map fun j => (lo m + j + 1, m / 2 ^ (lo m + j + 1), gv h f (lo m + j + 1, m / 2 ^ (lo m + j + 1))) := by
  obtain ⟨l, t, hj⟩ : ∃ l t, jz 64 b m e = (l, t) := ⟨_, _, rfl⟩
  obtain ⟨s0, H2, a1, a2, a3, a4, a5, a6⟩ := merge_law h f hb hm he hj
  obtain ⟨p1, p2, p3⟩ := path_any hb hm he hj
  rw [p1]
  rcases Nat.eq_zero_or_pos t with h0 | h0
  · subst h0
    refine ⟨s0, H2, a1, ?_, Nat.zero_le _, by simp, p3, rfl⟩
    rw [← a3]
    rfl
  · have hl := p2 h0
    rw [hl]
    refine ⟨s0, H2, a1, a3, a4, a5, p3, ?_⟩
    unfold toldM
    apply List.map_congr_left
    intro j hj
    have hjt : j < t := List.mem_range.1 hj
    rw [a6 (j + 1) (by omega), ← div_pow_add, Nat.add_assoc]
/-- How many nodes are merged as the leaf m is put behind the range from b on. -/
def mup (b m : Nat) : Nat := hi b m (m + 1) - 1 - lo m
theorem mup_lo {b m : Nat} (hb : b ≤ m) (he : m + 1 < 18446744073709551616) (h : 0 < mup b m) : lo m = 0 := by
  obtain ⟨l, t, hj⟩ : ∃ l t, jz 64 b m (m + 1) = (l, t) := ⟨_, _, rfl⟩
  obtain ⟨p1, p2, p3⟩ := path_any hb (show m < m + 1 by omega) he hj
  have hl : l = 0 := by have := jz_one b m; rw [hj] at this; exact this
  rw [p2 (by unfold mup at h; omega), hl]
/-- The nodes that are told as a leaf is put behind a range, each with its hash. -/
def grownS (h : HF) (f : Nat → List Nat) (b m : Nat) : List (Nat × Nat × List Nat) := (List.range (mup b m + 1)).map fun j => (j, m / 2 ^ j, gv h f (j, m / 2 ^ j))
/-- .. as n leaves are. -/
def grownL (h : HF) (f : Nat → List Nat) (b : Nat) : Nat → List (Nat × Nat × List Nat)
  | 0 => []
  | n + 1 => grownL h f b n ++ grownS h f b (b + n)
theorem leaf_law (h : HF) (f : Nat → List Nat) {b m : Nat} (hb : b ≤ m) (he : m + 1 < 18446744073709551616) :
    merged h (ph h f b m) [] (m / 2 ^ lo m) (f m) (hi b m (m + 1) - 1 - lo m) = ph h f b (m + 1) ∧ pop (hi b m (m + 1) - 1 - lo m) (m / 2 ^ lo m) ≤ (ph h f b m).length ∧ hi b m (m + 1) - 1 - lo m - pop (hi b m (m + 1) - 1 - lo m) (m / 2 ^ lo m) ≤ 0 ∧ hi b m (m + 1) ≤ 64 ∧
      [(0, m, f m)] ++ toldM h (ph h f b m) [] (m / 2 ^ lo m) (f m) (lo m) (hi b m (m + 1) - 1 - lo m) = grownS h f b m := by
  obtain ⟨s0, H2, a1, a2, a3, a4, a5, a6⟩ := join_law h f hb (show m < m + 1 by omega) he
  rw [ph_one h f he] at a1
  injection a1 with e1 e2
  subst e1 e2
  refine ⟨a2, a3, a4, a5, ?_⟩
  rw [a6]
  unfold grownS
  have hu : mup b m = hi b m (m + 1) - 1 - lo m := rfl
  rw [List.range_succ_eq_map, List.map_cons, Nat.pow_zero, Nat.div_one, List.map_map, ← hu]
  have h0 : gv h f (0, m) = f m := by have := seed_zero h f m; rwa [Nat.pow_zero, Nat.div_one] at this
  rw [h0]
  show _ :: _ = _ :: _
  congr 1
  rcases Nat.eq_zero_or_pos (mup b m) with hz | hp
  · rw [hz]; rfl
  · rw [mup_lo hb he hp]
    apply List.map_congr_left
    intro j _
    simp
theorem grownS_length (h : HF) (f : Nat → List Nat) {b m : Nat} (hb : b ≤ m) (he : m + 1 < 18446744073709551616) : (grownS h f b m).length ≤ 65 := by
  obtain ⟨l, t, hj⟩ : ∃ l t, jz 64 b m (m + 1) = (l, t) := ⟨_, _, rfl⟩
  obtain ⟨p1, p2, p3⟩ := path_any hb (show m < m + 1 by omega) he hj
  simp [grownS, mup]; omega
theorem grownL_length (h : HF) (f : Nat → List Nat) (b : Nat) : ∀ n, b + n + 1 < 18446744073709551616 → (grownL h f b n).length ≤ 65 * n
  | 0, _ => Nat.le_refl _
  | n + 1, he => by
    have := grownL_length h f b n (by omega)
    have := grownS_length h f (b := b) (m := b + n) (by omega) (by omega)
    rw [grownL, List.length_append]; omega
end Pl
end Go.Proofs.YtpdmmmcelkinjaaFmt
/- Each perfect tree of leaves is told just once as a range grows. -/
namespace Go.Proofs.YtpdmmmcelkinjaaFmt.Pl
theorem mup_iff {b m : Nat} (hb : b ≤ m) (he : m + 1 < 18446744073709551616) (j : Nat) : j ≤ mup b m ↔ b ≤ m / 2 ^ j * 2 ^ j ∧ (m / 2 ^ j + 1) * 2 ^ j = m + 1 := by
  obtain ⟨l, t, hj⟩ : ∃ l t, jz 64 b m (m + 1) = (l, t) := ⟨_, _, rfl⟩
  obtain ⟨p1, _, _⟩ := path_any hb (show m < m + 1 by omega) he hj
  have hl : l = 0 := by have := jz_one b m; rw [hj] at this; exact this
  have hc := (jz_cov 64 b m (m + 1) hb (by omega) (by omega)).1 j
  rw [hj] at hc
  simp only [hl, Nat.zero_add] at hc
  unfold mup
  rw [p1, ← hc]
  unfold Cov
  have h0 := Nat.two_pow_pos j
  have h1 := Nat.div_add_mod m (2 ^ j)
  have h2 := Nat.mod_lt m h0
  have h3 : (m / 2 ^ j + 1) * 2 ^ j = m / 2 ^ j * 2 ^ j + 2 ^ j := Nat.succ_mul _ _
  rw [Nat.mul_comm] at h1
  constructor
  · rintro ⟨a, c⟩; exact ⟨a, by omega⟩
  · rintro ⟨a, c⟩; exact ⟨a, by omega⟩
theorem count_map_fst (g : Nat → Nat × List Nat) (l : Nat) (x : Nat × List Nat) : ∀ k, ((List.range k).map fun j => (j, g j)).count (l, x) = if l < k ∧ g l = x then 1 else 0
  | 0 => by simp
  | k + 1 => by
    rw [List.range_succ, List.map_append, List.count_append, count_map_fst g l x k]
    simp only [List.map_cons, List.map_nil, List.count_singleton]
    by_cases h1 : l = k
    · subst h1
      by_cases h2 : g l = x
      · simp [h2]
      · simp [h2]
    · have h3 : ((k, g k) == (l, x)) = false := by
        rw [beq_eq_false_iff_ne]
        intro h
        injection h with h _
        exact h1 h.symm
      simp only [h3, Bool.false_eq_true, if_false, Nat.add_zero]
      by_cases h2 : l < k ∧ g l = x
      · rw [if_pos h2, if_pos ⟨by omega, h2.2⟩]
      · rw [if_neg h2, if_neg (fun h => h2 ⟨by omega, h.2⟩)]
theorem grownS_count (h : HF) (f : Nat → List Nat) {b m : Nat} (hb : b ≤ m) (he : m + 1 < 18446744073709551616) (l i : Nat) :
    (grownS h f b m).count (l, i, gv h f (l, i)) = if b ≤ i * 2 ^ l ∧ (i + 1) * 2 ^ l = m + 1 then 1 else 0 := by
  unfold grownS
  rw [count_map_fst (fun j => (m / 2 ^ j, gv h f (j, m / 2 ^ j))) l (i, gv h f (l, i)) (mup b m + 1)]
  have h0 := Nat.two_pow_pos l
  have key : (l < mup b m + 1 ∧ (m / 2 ^ l, gv h f (l, m / 2 ^ l)) = (i, gv h f (l, i))) ↔ (b ≤ i * 2 ^ l ∧ (i + 1) * 2 ^ l = m + 1) := by
    rw [Nat.lt_succ_iff, mup_iff hb he l]
    constructor
    · rintro ⟨⟨a, c⟩, e⟩
      injection e with e _
      rw [e] at a c
      exact ⟨a, c⟩
    · rintro ⟨a, c⟩
      have e : m / 2 ^ l = i := by
        have h3 : (i + 1) * 2 ^ l = i * 2 ^ l + 2 ^ l := Nat.succ_mul _ _
        rw [show m = 2 ^ l - 1 + i * 2 ^ l by omega, Nat.add_mul_div_right _ _ h0, Nat.div_eq_of_lt (by omega), Nat.zero_add]
      rw [e]
      exact ⟨⟨a, c⟩, rfl⟩
  by_cases hk : l < mup b m + 1 ∧ (m / 2 ^ l, gv h f (l, m / 2 ^ l)) = (i, gv h f (l, i))
  · rw [if_pos hk, if_pos (key.1 hk)]
  · rw [if_neg hk, if_neg (fun h' => hk (key.2 h'))]
/-- Each perfect tree of the leaves from b on is told just once, none else. -/
theorem grownL_count (h : HF) (f : Nat → List Nat) (b l i : Nat) : ∀ n, b + n + 1 < 18446744073709551616 →
    (grownL h f b n).count (l, i, gv h f (l, i)) = if b ≤ i * 2 ^ l ∧ (i + 1) * 2 ^ l ≤ b + n then 1 else 0
  | 0, _ => by
    have h0 := Nat.two_pow_pos l
    have h3 : (i + 1) * 2 ^ l = i * 2 ^ l + 2 ^ l := Nat.succ_mul _ _
    rw [if_neg (by omega)]
    rfl
  | n + 1, he => by
    have ih := grownL_count h f b l i n (by omega)
    have h0 := Nat.two_pow_pos l
    have h3 : (i + 1) * 2 ^ l = i * 2 ^ l + 2 ^ l := Nat.succ_mul _ _
    rw [grownL, List.count_append, ih, grownS_count h f (b := b) (m := b + n) (by omega) (by omega)]
    by_cases h1 : b ≤ i * 2 ^ l ∧ (i + 1) * 2 ^ l ≤ b + n
    · rw [if_pos h1, if_neg (by omega), if_pos (by omega)]
    · by_cases h2 : b ≤ i * 2 ^ l ∧ (i + 1) * 2 ^ l = b + n + 1
      · rw [if_neg h1, if_pos h2, if_pos (by omega)]
      · rw [if_neg h1, if_neg h2, if_neg (by omega)]
/-- The first place at level l that does not begin ahead of b. -/
def ceilAt (b l : Nat) : Nat := (b + (2 ^ l - 1)) / 2 ^ l
theorem ceil_le (b l q : Nat) : ceilAt b l ≤ q ↔ b ≤ q * 2 ^ l := by
  have h0 := Nat.two_pow_pos l
  have h3 : (q + 1) * 2 ^ l = q * 2 ^ l + 2 ^ l := Nat.succ_mul _ _
  unfold ceilAt
  rw [← Nat.lt_succ_iff, Nat.div_lt_iff_lt_mul h0, Nat.succ_eq_add_one, h3]
  omega
/-- How many trees of the first k levels lie from b to e. -/
def tot (b e : Nat) : Nat → Nat
  | 0 => 0
  | k + 1 => tot b e k + (e / 2 ^ k - ceilAt b k)
theorem tot_term {b m : Nat} (hb : b ≤ m) (he : m + 1 < 18446744073709551616) (l : Nat) : (m + 1) / 2 ^ l - ceilAt b l = m / 2 ^ l - ceilAt b l + if l ≤ mup b m then 1 else 0 := by
  have h0 := Nat.two_pow_pos l
  have h1 := Nat.div_add_mod m (2 ^ l)
  have h2 := Nat.mod_lt m h0
  have h3 : (m / 2 ^ l + 1) * 2 ^ l = m / 2 ^ l * 2 ^ l + 2 ^ l := Nat.succ_mul _ _
  have hc := ceil_le b l (m / 2 ^ l)
  have hm := mup_iff hb he l
  rw [Nat.mul_comm] at h1
  by_cases hr : m % 2 ^ l + 1 = 2 ^ l
  · have e : (m + 1) / 2 ^ l = m / 2 ^ l + 1 := by
      rw [show m + 1 = 0 + (m / 2 ^ l + 1) * 2 ^ l by omega, Nat.add_mul_div_right _ _ h0]
      simp
    rw [e]
    by_cases hq : ceilAt b l ≤ m / 2 ^ l
    · rw [if_pos (hm.2 ⟨hc.1 hq, by omega⟩)]; omega
    · rw [if_neg (fun h => hq (hc.2 (hm.1 h).1))]; omega
  · have e : (m + 1) / 2 ^ l = m / 2 ^ l := by
      have : (m % 2 ^ l + 1 + m / 2 ^ l * 2 ^ l) / 2 ^ l = m / 2 ^ l := by
        rw [Nat.add_mul_div_right _ _ h0, Nat.div_eq_of_lt (by omega), Nat.zero_add]
      rw [show m + 1 = m % 2 ^ l + 1 + m / 2 ^ l * 2 ^ l by omega]
      rw [this]
    rw [e, if_neg (fun h => hr (by have := (hm.1 h).2; omega))]
    rfl
theorem tot_step {b m : Nat} (hb : b ≤ m) (he : m + 1 < 18446744073709551616) : ∀ k, tot b (m + 1) k = tot b m k + min k (mup b m + 1)
  | 0 => by simp [tot]
  | k + 1 => by
    rw [tot, tot, tot_step hb he k, tot_term hb he k]
    by_cases h : k ≤ mup b m
    · rw [if_pos h]; omega
    · rw [if_neg h]; omega
theorem tot_zero (b : Nat) : ∀ k, tot b b k = 0
  | 0 => rfl
  | k + 1 => by
    rw [tot, tot_zero b k]
    have h0 := Nat.two_pow_pos k
    have : b / 2 ^ k ≤ ceilAt b k := Nat.div_le_div_right (by omega)
    omega
theorem mup_lt {b n k : Nat} (he : b + n + 1 < 18446744073709551616) (hk : n + 1 < 2 ^ k) : mup b (b + n) < k := by
  obtain ⟨h1, h2⟩ := (mup_iff (Nat.le_add_right b n) he (mup b (b + n))).1 (Nat.le_refl _)
  generalize mup b (b + n) = j at *
  have h3 : ((b + n) / 2 ^ j + 1) * 2 ^ j = (b + n) / 2 ^ j * 2 ^ j + 2 ^ j := Nat.succ_mul _ _
  rcases Nat.lt_or_ge j k with h | h
  · exact h
  · have := Nat.pow_le_pow_right (show 0 < 2 by omega) h
    omega
/-- As many nodes are told as there are perfect trees. -/
theorem grownL_tot (h : HF) (f : Nat → List Nat) (b : Nat) : ∀ n, b + n + 1 < 18446744073709551616 → n ≤ 255 → (grownL h f b n).length = tot b (b + n) 8
  | 0, _, _ => (tot_zero b 8).symm
  | n + 1, he, hn => by
    have ih := grownL_tot h f b n (by omega) (by omega)
    have h1 := tot_step (Nat.le_add_right b n) (by omega) 8
    have h2 := mup_lt (b := b) (n := n) (k := 8) (by omega) (by omega)
    rw [grownL, List.length_append, ih, show b + (n + 1) = b + n + 1 by omega, h1]
    simp [grownS]
    omega
end Go.Proofs.YtpdmmmcelkinjaaFmt.Pl
/- The told nodes that are one node: just that node with its hash. -/
namespace Go.Proofs.YtpdmmmcelkinjaaFmt.Pl
theorem grownL_mem (h : HF) (f : Nat → List Nat) (b : Nat) : ∀ n, ∀ s ∈ grownL h f b n, s.2.2 = gv h f (s.1, s.2.1)
  | 0, s, hs => by simp [grownL] at hs
  | n + 1, s, hs => by
    rw [grownL, List.mem_append] at hs
    rcases hs with hs | hs
    · exact grownL_mem h f b n s hs
    · unfold grownS at hs
      obtain ⟨j, _, rfl⟩ := List.mem_map.1 hs
      rfl
/-- The hashes of the told nodes that are the node (l, i). -/
def heard (G : List (Nat × Nat × List Nat)) (l i : Nat) : List (List Nat) := (G.filter fun s => s.1 == l && s.2.1 == i).map fun s => s.2.2
theorem heard_append (G G' : List (Nat × Nat × List Nat)) (l i : Nat) : heard (G ++ G') l i = heard G l i ++ heard G' l i := by simp [heard]
theorem heard_count (g : List Nat) (l i : Nat) : ∀ G : List (Nat × Nat × List Nat), (∀ s ∈ G, s.1 = l → s.2.1 = i → s.2.2 = g) → heard G l i = List.replicate (G.count (l, i, g)) g
  | [], _ => rfl
  | s :: G, hG => by
    have ih := heard_count g l i G (fun s hs => hG s (List.mem_cons_of_mem _ hs))
    rw [show s :: G = [s] ++ G from rfl, heard_append, ih, List.count_append]
    obtain ⟨a, c, d⟩ := s
    by_cases h1 : a = l ∧ c = i
    · obtain ⟨rfl, rfl⟩ := h1
      have hd : d = g := hG _ (List.mem_cons_self ..) rfl rfl
      subst hd
      simp [heard, List.replicate_succ, Nat.add_comm 1]
    · have e1 : (a == l && c == i) = false := by
        rw [Bool.eq_false_iff]
        intro h
        simp at h
        exact h1 h
      have e2 : ((a, c, d) == (l, i, g)) = false := by
        rw [beq_eq_false_iff_ne]
        intro h
        injection h with h2 h3
        injection h3 with h3 _
        exact h1 ⟨h2, h3⟩
      simp [heard, e1, e2, List.count_cons]
/-- Of a tree's perfect parts each is heard just once. -/
theorem heard_grown (h : HF) (f : Nat → List Nat) (b l i n : Nat) (he : b + n + 1 < 18446744073709551616) (h1 : b ≤ i * 2 ^ l) (h2 : (i + 1) * 2 ^ l ≤ b + n) : heard (grownL h f b n) l i = [gv h f (l, i)] := by
  rw [heard_count (gv h f (l, i)) l i _ (fun s hs e1 e2 => by rw [grownL_mem h f b n s hs, e1, e2]), grownL_count h f b l i n he, if_pos ⟨h1, h2⟩]
  rfl
end Go.Proofs.YtpdmmmcelkinjaaFmt.Pl
