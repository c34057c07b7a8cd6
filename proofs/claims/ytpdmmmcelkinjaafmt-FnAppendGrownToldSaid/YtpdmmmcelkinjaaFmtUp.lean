/- The trees beside the path of a leaf, told from the leaf upwards. -/
import Derived.Test.YtpdmmmcelkinjaaFmtMth
import Derived.Test.YtpdmmmcelkinjaaFmtPlanQ
open Go
namespace Go.Proofs.YtpdmmmcelkinjaaFmt.Pl
/-- The tree beside node i of level k, of the leaves up to e: where it begins, and of how many leaves it is. -/
def sibAt (k i e : Nat) : List (Nat × Nat) :=
  if i % 2 = 1 then [((i - 1) * 2 ^ k, 2 ^ k)] else if (i + 1) * 2 ^ k < e then [((i + 1) * 2 ^ k, min (2 ^ k) (e - (i + 1) * 2 ^ k))] else []
def upS : Nat → Nat → Nat → Nat → List (Nat × Nat)
  | 0, _, _, _ => []
  | f + 1, k, i, e => sibAt k i e ++ upS f (k + 1) (i / 2) e
theorem div_pow_succ (x f : Nat) : x / 2 / 2 ^ f = x / 2 ^ (f + 1) := by rw [Nat.div_div_eq_div_mul, Nat.pow_succ, Nat.mul_comm]
theorem upS_snoc : ∀ (f k i e : Nat), upS (f + 1) k i e = upS f k i e ++ sibAt (k + f) (i / 2 ^ f) e
  | 0, k, i, e => by simp [upS]
  | f + 1, k, i, e => by
    rw [upS, upS_snoc f (k + 1) (i / 2) e, upS, List.append_assoc, div_pow_succ, show k + 1 + f = k + (f + 1) by omega]
theorem upS_add : ∀ (f g k i e : Nat), upS (f + g) k i e = upS f k i e ++ upS g (k + f) (i / 2 ^ f) e
  | 0, g, k, i, e => by simp [upS]
  | f + 1, g, k, i, e => by
    rw [show f + 1 + g = (f + g) + 1 by omega, upS, upS_add f g, upS, List.append_assoc, div_pow_succ, show k + 1 + f = k + (f + 1) by omega]
theorem block_le {x M m : Nat} (hx : x < M) (h : M % m = 0) : (x / m + 1) * m ≤ M := by
  obtain ⟨c, rfl⟩ := Nat.dvd_of_mod_eq_zero h
  have hm : 0 < m := by rcases Nat.eq_zero_or_pos m with h | h <;> simp_all
  have : x / m < c := (Nat.div_lt_iff_lt_mul hm).2 (by rw [Nat.mul_comm]; exact hx)
  rw [Nat.mul_comm m c]
  exact Nat.mul_le_mul_right _ this
theorem sibAt_full {k i M e : Nat} (h : (i / 2 + 1) * 2 ^ (k + 1) ≤ M) (hM : M ≤ e) : sibAt k i M = sibAt k i e := by
  unfold sibAt
  by_cases ho : i % 2 = 1
  · rw [if_pos ho, if_pos ho]
  · rw [if_neg ho, if_neg ho]
    have hp := Nat.two_pow_pos k
    have e1 : (i / 2 + 1) * 2 ^ (k + 1) = (i + 1) * 2 ^ k + 2 ^ k := by
      rw [Nat.pow_succ, ← Nat.mul_assoc, Nat.mul_right_comm]
      have : (i / 2 + 1) * 2 = i + 1 + 1 := by omega
      rw [this, Nat.add_mul (i + 1) 1, Nat.one_mul]
    rw [if_pos (by omega), if_pos (by omega), Nat.min_eq_left (by omega), Nat.min_eq_left (by omega)]
theorem upS_full {M e x : Nat} (hM : M ≤ e) (hx : x < M) : ∀ f : Nat, M % 2 ^ f = 0 → upS f 0 x M = upS f 0 x e
  | 0, _ => rfl
  | f + 1, h => by
    have h' : M % 2 ^ f = 0 := by
      have := Nat.mod_mul_right_mod M (2 ^ f) 2
      rw [← Nat.pow_succ, h] at this
      simpa using this.symm
    rw [upS_snoc, upS_snoc, upS_full hM hx f h', sibAt_full ?_ hM]
    rw [Nat.zero_add, Nat.div_div_eq_div_mul, ← Nat.pow_succ]
    exact block_le hx h
theorem sides_up : ∀ (K a idx n : Nat), a % 2 ^ K = 0 → idx < n → n ≤ 2 ^ K → sides a idx n = upS K 0 (a + idx) (a + n)
  | 0, a, idx, n, _, hlt, hn => by
    have h1 : n = 1 := by simp at hn; omega
    subst h1
    rw [sides_one]; rfl
  | K + 1, a, idx, n, ha, hlt, hn => by
    have hp := Nat.two_pow_pos K
    obtain ⟨c, rfl⟩ := Nat.dvd_of_mod_eq_zero ha
    have hd : ∀ x, (2 ^ (K + 1) * c + x) / 2 ^ K = 2 * c + x / 2 ^ K := fun x => by
      rw [Nat.pow_succ, Nat.mul_assoc, Nat.mul_add_div hp]
    have hmod : ∀ x, (2 ^ (K + 1) * c + 2 ^ K * x) % 2 ^ K = 0 := fun x => by
      rw [Nat.pow_succ, Nat.mul_assoc, ← Nat.mul_add, Nat.mul_mod_right]
    rw [upS_snoc, hd, Nat.zero_add]
    rcases Nat.lt_or_ge (2 ^ K) n with h2 | h2
    · have hs : split n = 2 ^ K := split_eq h2 hn
      have h2n : 2 ≤ n := by omega
      rcases Nat.lt_or_ge idx (2 ^ K) with hi | hi
      · rw [sides_l h2n (by omega), hs, sides_up K _ idx (2 ^ K) (by simpa using hmod 0) hi (Nat.le_refl _),
          upS_full (M := 2 ^ (K + 1) * c + 2 ^ K) (e := 2 ^ (K + 1) * c + n) (by omega) (by omega) K (by simpa using hmod 1), Nat.div_eq_of_lt hi]
        congr 1
        unfold sibAt
        rw [if_neg (by omega)]
        have e1 : (2 * c + 0 + 1) * 2 ^ K = 2 ^ (K + 1) * c + 2 ^ K := by
          rw [Nat.pow_succ, Nat.add_zero, Nat.add_mul, Nat.one_mul, Nat.mul_assoc (2 ^ K), Nat.mul_comm (2 ^ K) (2 * c)]
        rw [e1, if_pos (by omega), Nat.min_eq_right (by rw [Nat.pow_succ] at hn; omega), show 2 ^ (K + 1) * c + n - (2 ^ (K + 1) * c + 2 ^ K) = n - 2 ^ K by omega]
      · have hk : 2 ^ (K + 1) = 2 ^ K + 2 ^ K := by rw [Nat.pow_succ]; omega
        rw [sides_r h2n (by omega), hs, sides_up K _ (idx - 2 ^ K) (n - 2 ^ K) (by simpa using hmod 1) (by omega) (by omega),
          show 2 ^ (K + 1) * c + 2 ^ K + (idx - 2 ^ K) = 2 ^ (K + 1) * c + idx by omega, show 2 ^ (K + 1) * c + 2 ^ K + (n - 2 ^ K) = 2 ^ (K + 1) * c + n by omega]
        congr 1
        have e1 : idx / 2 ^ K = 1 := Nat.div_eq_of_lt_le (by omega) (by omega)
        rw [e1]
        unfold sibAt
        rw [if_pos (by omega), Nat.add_sub_cancel, Nat.pow_succ, Nat.mul_assoc, Nat.mul_comm]
    · rw [sides_up K _ idx n (by simpa using hmod 0) hlt h2, Nat.div_eq_of_lt (Nat.lt_of_lt_of_le hlt h2)]
      have e2 : sibAt K (2 * c + 0) (2 ^ (K + 1) * c + n) = [] := by
        unfold sibAt
        have e1 : (2 * c + 0 + 1) * 2 ^ K = 2 ^ (K + 1) * c + 2 ^ K := by
          rw [Nat.pow_succ, Nat.add_zero, Nat.add_mul, Nat.one_mul, Nat.mul_assoc (2 ^ K), Nat.mul_comm (2 ^ K) (2 * c)]
        rw [if_neg (by omega), if_neg (by rw [e1]; omega)]
      rw [e2, List.append_nil]
/-! ### The three parts of the way up: as long as the other trees are whole; the one that is not; those at the left. -/
/-- A node as a range of leaves. -/
def rng (p : Nat × Nat) : Nat × Nat := (p.2 * 2 ^ p.1, 2 ^ p.1)
theorem upS_sibs : ∀ (f k i s : Nat), (i / 2 ^ f + 1) * 2 ^ (k + f) ≤ s → upS f k i s = (sibs k i f).map rng
  | 0, _, _, _, _ => rfl
  | f + 1, k, i, s, h => by
    have h1 : (i / 2 / 2 ^ f + 1) * 2 ^ (k + 1 + f) ≤ s := by rw [div_pow_succ, show k + 1 + f = k + (f + 1) by omega]; exact h
    have h2 := half_lt (i / 2) f (k + 1)
    rw [upS, sibs, List.map_cons, upS_sibs f (k + 1) (i / 2) s h1]
    have e1 : (i / 2 + 1) * 2 ^ (k + 1) = (i / 2 * 2 + 1) * 2 ^ k + 2 ^ k := by
      rw [Nat.pow_succ, ← Nat.mul_assoc, Nat.mul_right_comm, Nat.add_mul (i / 2) 1 2, show i / 2 * 2 + 1 * 2 = i / 2 * 2 + 1 + 1 by omega, Nat.add_mul (i / 2 * 2 + 1) 1, Nat.one_mul]
    have hp := Nat.two_pow_pos k
    unfold sibAt rng
    rw [xor1]
    simp only []
    by_cases ho : i % 2 = 1
    · rw [if_pos ho, if_pos ho]; rfl
    · have e2 : i / 2 * 2 = i := by omega
      rw [e2] at e1
      rw [if_neg ho, if_neg ho, if_pos (by omega), Nat.min_eq_left (by omega)]; rfl
theorem pcs_even (f k b : Nat) : pcs (f + 1) k 0 (2 * b) = pcs f (k + 1) 0 b := by
  rcases Nat.eq_zero_or_pos b with h | h
  · subst h; rw [pcs_nil _ _ _ _ (Nat.le_refl _), pcs_nil _ _ _ _ (Nat.le_refl _)]
  · rw [pcs, if_neg (by omega), if_neg (by omega), if_neg (by omega), show (0 + 1) / 2 = 0 by omega, show 2 * b / 2 = b by omega]; simp
theorem pcs_pow : ∀ (d f k b : Nat), pcs (f + d) k 0 (b * 2 ^ d) = pcs f (k + d) 0 b
  | 0, f, k, b => by simp
  | d + 1, f, k, b => by
    rw [show f + (d + 1) = f + d + 1 by omega, show b * 2 ^ (d + 1) = 2 * (b * 2 ^ d) by rw [Nat.pow_succ, ← Nat.mul_assoc, Nat.mul_comm], pcs_even, pcs_pow d f (k + 1) b, show k + 1 + d = k + (d + 1) by omega]
/-- Above the place where the other tree is not whole only trees at the left stand. -/
theorem upS_left : ∀ (f k i s : Nat), i = s / 2 ^ k → upS f k i s = ((pcs f k 0 i).reverse).map rng
  | 0, _, _, _, _ => rfl
  | f + 1, k, i, s, h => by
    have h1 : i / 2 = s / 2 ^ (k + 1) := by rw [h, Nat.div_div_eq_div_mul, Nat.pow_succ]
    have hlt : s < (i + 1) * 2 ^ k := by rw [h]; exact Nat.lt_mul_of_div_lt (by omega) (Nat.two_pow_pos k)
    rw [upS, upS_left f (k + 1) (i / 2) s h1]
    unfold sibAt
    by_cases ho : i % 2 = 1
    · rw [if_pos ho]
      conv => rhs; rw [pcs, if_neg (by omega), if_neg (by omega), if_pos ho, show (0 + 1) / 2 = 0 by omega]
      simp [rng]
    · rw [if_neg ho, if_neg (by omega)]
      rcases Nat.eq_zero_or_pos i with h0 | h0
      · subst h0; rw [pcs_nil _ _ _ _ (Nat.le_refl _), pcs_nil _ _ _ _ (Nat.le_refl _)]; rfl
      · conv => rhs; rw [pcs, if_neg (by omega), if_neg (by omega), if_neg ho, show (0 + 1) / 2 = 0 by omega]
        simp
end Go.Proofs.YtpdmmmcelkinjaaFmt.Pl
