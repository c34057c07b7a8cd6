/- Each perfect tree of leaves is told just once as a range grows. -/
import Derived.Test.YtpdmmmcelkinjaaFmtJoinP
namespace Go.Proofs.YtpdmmmcelkinjaaFmt.Pl
theorem mup_iff {b m : Nat} (hb : b ≤ m) (he : m + 1 < 18446744073709551616) (j : Nat) : j ≤ mup b m ↔ b ≤ m / 2 ^ j * 2 ^ j ∧ (m / 2 ^ j + 1) * 2 ^ j = m + 1 := by
  obtain ⟨l, t, hj⟩ : ∃ l t, jz 64 b m (m + 1) = (l, t) := ⟨_, _, rfl⟩
  obtain ⟨p1, _, _⟩ := path_any hb (show m < m + 1 by omega) he hj
  have hl : l = 0 := by have := jz_one b m; rw [hj] at this; exact this
  have hc := (jz_cov 64 b m (m + 1) hb (by omega) (by omega)).1 j
  rw [hj] at hc
  simp only [hl, Nat.zero_add] at hc
  unfold mup
  rw [p1, ← hc]
  unfold Cov
  have h0 := Nat.two_pow_pos j
  have h1 := Nat.div_add_mod m (2 ^ j)
  have h2 := Nat.mod_lt m h0
  have h3 : (m / 2 ^ j + 1) * 2 ^ j = m / 2 ^ j * 2 ^ j + 2 ^ j := Nat.succ_mul _ _
  rw [Nat.mul_comm] at h1
  constructor
  · rintro ⟨a, c⟩; exact ⟨a, by omega⟩
  · rintro ⟨a, c⟩; exact ⟨a, by omega⟩
theorem count_map_fst (g : Nat → Nat × List Nat) (l : Nat) (x : Nat × List Nat) : ∀ k, ((List.range k).map fun j => (j, g j)).count (l, x) = if l < k ∧ g l = x then 1 else 0
  | 0 => by simp
  | k + 1 => by
    rw [List.range_succ, List.map_append, List.count_append, count_map_fst g l x k]
    simp only [List.map_cons, List.map_nil, List.count_singleton]
    by_cases h1 : l = k
    · subst h1
      by_cases h2 : g l = x
      · simp [h2]
      · simp [h2]
    · have h3 : ((k, g k) == (l, x)) = false := by
        rw [beq_eq_false_iff_ne]
        intro h
        injection h with h _
        exact h1 h.symm
      simp only [h3, Bool.false_eq_true, if_false, Nat.add_zero]
      by_cases h2 : l < k ∧ g l = x
      · rw [if_pos h2, if_pos ⟨by omega, h2.2⟩]
      · rw [if_neg h2, if_neg (fun h => h2 ⟨by omega, h.2⟩)]
theorem grownS_count (h : HF) (f : Nat → List Nat) {b m : Nat} (hb : b ≤ m) (he : m + 1 < 18446744073709551616) (l i : Nat) :
    (grownS h f b m).count (l, i, gv h f (l, i)) = if b ≤ i * 2 ^ l ∧ (i + 1) * 2 ^ l = m + 1 then 1 else 0 := by
  unfold grownS
  rw [count_map_fst (fun j => (m / 2 ^ j, gv h f (j, m / 2 ^ j))) l (i, gv h f (l, i)) (mup b m + 1)]
  have h0 := Nat.two_pow_pos l
  have key : (l < mup b m + 1 ∧ (m / 2 ^ l, gv h f (l, m / 2 ^ l)) = (i, gv h f (l, i))) ↔ (b ≤ i * 2 ^ l ∧ (i + 1) * 2 ^ l = m + 1) := by
    rw [Nat.lt_succ_iff, mup_iff hb he l]
    constructor
    · rintro ⟨⟨a, c⟩, e⟩
      injection e with e _
      rw [e] at a c
      exact ⟨a, c⟩
    · rintro ⟨a, c⟩
      have e : m / 2 ^ l = i := by
        have h3 : (i + 1) * 2 ^ l = i * 2 ^ l + 2 ^ l := Nat.succ_mul _ _
        rw [show m = 2 ^ l - 1 + i * 2 ^ l by omega, Nat.add_mul_div_right _ _ h0, Nat.div_eq_of_lt (by omega), Nat.zero_add]
      rw [e]
      exact ⟨⟨a, c⟩, rfl⟩
  by_cases hk : l < mup b m + 1 ∧ (m / 2 ^ l, gv h f (l, m / 2 ^ l)) = (i, gv h f (l, i))
  · rw [if_pos hk, if_pos (key.1 hk)]
  · rw [if_neg hk, if_neg (fun h' => hk (key.2 h'))]
/-- Each perfect tree of the leaves from b on is told just once, none else. -/
theorem grownL_count (h : HF) (f : Nat → List Nat) (b l i : Nat) : ∀ n, b + n + 1 < 18446744073709551616 →
    (grownL h f b n).count (l, i, gv h f (l, i)) = if b ≤ i * 2 ^ l ∧ (i + 1) * 2 ^ l ≤ b + n then 1 else 0
  | 0, _ => by
    have h0 := Nat.two_pow_pos l
    have h3 : (i + 1) * 2 ^ l = i * 2 ^ l + 2 ^ l := Nat.succ_mul _ _
    rw [if_neg (by omega)]
    rfl
  | n + 1, he => by
    have ih := grownL_count h f b l i n (by omega)
    have h0 := Nat.two_pow_pos l
    have h3 : (i + 1) * 2 ^ l = i * 2 ^ l + 2 ^ l := Nat.succ_mul _ _
    rw [grownL, List.count_append, ih, grownS_count h f (b := b) (m := b + n) (by omega) (by omega)]
    by_cases h1 : b ≤ i * 2 ^ l ∧ (i + 1) * 2 ^ l ≤ b + n
    · rw [if_pos h1, if_neg (by omega), if_pos (by omega)]
    · by_cases h2 : b ≤ i * 2 ^ l ∧ (i + 1) * 2 ^ l = b + n + 1
      · rw [if_neg h1, if_pos h2, if_pos (by omega)]
      · rw [if_neg h1, if_neg h2, if_neg (by omega)]
/-- The first place at level l that does not begin ahead of b. -/
def ceilAt (b l : Nat) : Nat := (b + (2 ^ l - 1)) / 2 ^ l
theorem ceil_le (b l q : Nat) : ceilAt b l ≤ q ↔ b ≤ q * 2 ^ l := by
  have h0 := Nat.two_pow_pos l
  have h3 : (q + 1) * 2 ^ l = q * 2 ^ l + 2 ^ l := Nat.succ_mul _ _
  unfold ceilAt
  rw [← Nat.lt_succ_iff, Nat.div_lt_iff_lt_mul h0, Nat.succ_eq_add_one, h3]
  omega
/-- How many trees of the first k levels lie from b to e. -/
def tot (b e : Nat) : Nat → Nat
  | 0 => 0
  | k + 1 => tot b e k + (e / 2 ^ k - ceilAt b k)
theorem tot_term {b m : Nat} (hb : b ≤ m) (he : m + 1 < 18446744073709551616) (l : Nat) : (m + 1) / 2 ^ l - ceilAt b l = m / 2 ^ l - ceilAt b l + if l ≤ mup b m then 1 else 0 := by
  have h0 := Nat.two_pow_pos l
  have h1 := Nat.div_add_mod m (2 ^ l)
  have h2 := Nat.mod_lt m h0
  have h3 : (m / 2 ^ l + 1) * 2 ^ l = m / 2 ^ l * 2 ^ l + 2 ^ l := Nat.succ_mul _ _
  have hc := ceil_le b l (m / 2 ^ l)
  have hm := mup_iff hb he l
  rw [Nat.mul_comm] at h1
  by_cases hr : m % 2 ^ l + 1 = 2 ^ l
  · have e : (m + 1) / 2 ^ l = m / 2 ^ l + 1 := by
      rw [show m + 1 = 0 + (m / 2 ^ l + 1) * 2 ^ l by omega, Nat.add_mul_div_right _ _ h0]
      simp
    rw [e]
    by_cases hq : ceilAt b l ≤ m / 2 ^ l
    · rw [if_pos (hm.2 ⟨hc.1 hq, by omega⟩)]; omega
    · rw [if_neg (fun h => hq (hc.2 (hm.1 h).1))]; omega
  · have e : (m + 1) / 2 ^ l = m / 2 ^ l := by
      have : (m % 2 ^ l + 1 + m / 2 ^ l * 2 ^ l) / 2 ^ l = m / 2 ^ l := by
        rw [Nat.add_mul_div_right _ _ h0, Nat.div_eq_of_lt (by omega), Nat.zero_add]
      rw [show m + 1 = m % 2 ^ l + 1 + m / 2 ^ l * 2 ^ l by omega]
      rw [this]
    rw [e, if_neg (fun h => hr (by have := (hm.1 h).2; omega))]
    rfl
theorem tot_step {b m : Nat} (hb : b ≤ m) (he : m + 1 < 18446744073709551616) : ∀ k, tot b (m + 1) k = tot b m k + min k (mup b m + 1)
  | 0 => by simp [tot]
  | k + 1 => by
    rw [tot, tot, tot_step hb he k, tot_term hb he k]
    by_cases h : k ≤ mup b m
    · rw [if_pos h]; omega
    · rw [if_neg h]; omega
theorem tot_zero (b : Nat) : ∀ k, tot b b k = 0
  | 0 => rfl
  | k + 1 => by
    rw [tot, tot_zero b k]
    have h0 := Nat.two_pow_pos k
    have : b / 2 ^ k ≤ ceilAt b k := Nat.div_le_div_right (by omega)
    omega
theorem mup_lt {b n k : Nat} (he : b + n + 1 < 18446744073709551616) (hk : n + 1 < 2 ^ k) : mup b (b + n) < k := by
  obtain ⟨h1, h2⟩ := (mup_iff (Nat.le_add_right b n) he (mup b (b + n))).1 (Nat.le_refl _)
  generalize mup b (b + n) = j at *
  have h3 : ((b + n) / 2 ^ j + 1) * 2 ^ j = (b + n) / 2 ^ j * 2 ^ j + 2 ^ j := Nat.succ_mul _ _
  rcases Nat.lt_or_ge j k with h | h
  · exact h
  · have := Nat.pow_le_pow_right (show 0 < 2 by omega) h
    omega
/-- As many nodes are told as there are perfect trees. -/
theorem grownL_tot (h : HF) (f : Nat → List Nat) (b : Nat) : ∀ n, b + n + 1 < 18446744073709551616 → n ≤ 255 → (grownL h f b n).length = tot b (b + n) 8
  | 0, _, _ => (tot_zero b 8).symm
  | n + 1, he, hn => by
    have ih := grownL_tot h f b n (by omega) (by omega)
    have h1 := tot_step (Nat.le_add_right b n) (by omega) 8
    have h2 := mup_lt (b := b) (n := n) (k := 8) (by omega) (by omega)
    rw [grownL, List.length_append, ih, show b + (n + 1) = b + n + 1 by omega, h1]
    simp [grownS]
    omega
end Go.Proofs.YtpdmmmcelkinjaaFmt.Pl
