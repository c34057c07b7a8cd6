/- The nodes that are told as two ranges are merged: each tree of leaves of both just once. -/
import Derived.Test.YtpdmmmcelkinjaaFmtMergeW
namespace Go.Proofs.YtpdmmmcelkinjaaFmt.Pl
/-- The nodes that are told, each with its hash. -/
def toldR (h : HF) (f : Nat → List Nat) (b m e : Nat) : List (Nat × Nat × List Nat) := if m < e then (List.range (hi b m e - 1 - lo m)).map fun j => (lo m + j + 1, m / 2 ^ (lo m + j + 1), gv h f (lo m + j + 1, m / 2 ^ (lo m + j + 1))) else []
theorem toldR_lt (h : HF) (f : Nat → List Nat) {b m e : Nat} (hm : m < e) : toldR h f b m e = (List.range (hi b m e - 1 - lo m)).map fun j => (lo m + j + 1, m / 2 ^ (lo m + j + 1), gv h f (lo m + j + 1, m / 2 ^ (lo m + j + 1))) := by unfold toldR; rw [if_pos hm]
theorem toldR_ge (h : HF) (f : Nat → List Nat) {b m e : Nat} (hm : ¬ m < e) : toldR h f b m e = [] := by unfold toldR; rw [if_neg hm]
/-- A tree of level n that has leaves of both. -/
def Str (b m e n : Nat) : Prop := Cov b m e n ∧ m % 2 ^ n ≠ 0
instance (b m e n : Nat) : Decidable (Str b m e n) := by unfold Str Cov; infer_instance
theorem str_iff {b m e l t : Nat} (hb : b ≤ m) (hm : m < e) (he : e < 18446744073709551616) (hj : jz 64 b m e = (l, t)) (n : Nat) : Str b m e n ↔ l < n ∧ n ≤ l + t := by
  obtain ⟨c1, c2, c3, _⟩ := jz_cov 64 b m e hb hm (by omega)
  rw [hj] at c1 c2 c3
  simp only [] at c1 c2 c3
  unfold Str
  rw [c1 n]
  constructor
  · rintro ⟨h1, h2⟩
    refine ⟨?_, h1⟩
    rcases Nat.lt_or_ge l n with h | h
    · exact h
    · exfalso
      apply h2
      exact Nat.mod_eq_zero_of_dvd (Nat.dvd_trans (Nat.pow_dvd_pow 2 h) (Nat.dvd_of_mod_eq_zero c2))
  · rintro ⟨h1, h2⟩
    refine ⟨h2, fun h3 => ?_⟩
    have h4 := c3 (by omega)
    have h5 : 2 ^ (l + 1) ∣ m := Nat.dvd_trans (Nat.pow_dvd_pow 2 (by omega : l + 1 ≤ n)) (Nat.dvd_of_mod_eq_zero h3)
    obtain ⟨q, hq⟩ := h5
    have hp := Nat.two_pow_pos l
    have h6 : m / 2 ^ l = 2 * q := by rw [hq, Nat.pow_succ, Nat.mul_assoc, Nat.mul_div_cancel_left _ hp]
    omega
theorem count_map_lev (a k l : Nat) (g : Nat → Nat × List Nat) (x : Nat × List Nat) : ((List.range k).map fun j => (a + j + 1, g (a + j + 1))).count (l, x) = if a < l ∧ l ≤ a + k ∧ g l = x then 1 else 0 := by
  induction k with
  | zero => rw [if_neg (by omega)]; rfl
  | succ k ih =>
    rw [List.range_succ, List.map_append, List.count_append, ih]
    simp only [List.map_cons, List.map_nil, List.count_singleton]
    by_cases h1 : l = a + k + 1
    · subst h1
      rw [if_neg (by omega)]
      by_cases h2 : g (a + k + 1) = x
      · rw [show (if a < a + k + 1 ∧ a + k + 1 ≤ a + (k + 1) ∧ g (a + k + 1) = x then 1 else 0) = 1 from if_pos ⟨by omega, by omega, h2⟩, h2]; simp
      · rw [show (if a < a + k + 1 ∧ a + k + 1 ≤ a + (k + 1) ∧ g (a + k + 1) = x then 1 else 0) = 0 from if_neg (fun h => h2 h.2.2)]; simp [h2]
    · have h3 : ((a + k + 1, g (a + k + 1)) == (l, x)) = false := by
        rw [beq_eq_false_iff_ne]
        intro h
        injection h with h _
        exact h1 h.symm
      simp only [h3, Bool.false_eq_true, if_false, Nat.add_zero]
      by_cases h2 : a < l ∧ l ≤ a + k ∧ g l = x
      · rw [if_pos h2, if_pos ⟨h2.1, by omega, h2.2.2⟩]
      · rw [if_neg h2, if_neg (fun h => h2 ⟨h.1, by omega, h.2.2⟩)]
theorem toldR_len {h : HF} {f : Nat → List Nat} {b m e l t : Nat} (hb : b ≤ m) (hm : m < e) (he : e < 18446744073709551616) (hj : jz 64 b m e = (l, t)) : (toldR h f b m e).length = t := by
  obtain ⟨p1, _, _⟩ := path_any hb hm he hj
  rw [toldR_lt h f hm, List.length_map, List.length_range, p1]
theorem toldR_count (h : HF) (f : Nat → List Nat) {b m e : Nat} (hb : b ≤ m) (hm : m ≤ e) (he : e < 18446744073709551616) (l i : Nat) :
    (toldR h f b m e).count (l, i, gv h f (l, i)) = if b ≤ i * 2 ^ l ∧ (i + 1) * 2 ^ l ≤ e ∧ i * 2 ^ l < m ∧ m < (i + 1) * 2 ^ l then 1 else 0 := by
  rcases Nat.lt_or_ge m e with hlt | hge
  · obtain ⟨l', t, hj⟩ : ∃ l t, jz 64 b m e = (l, t) := ⟨_, _, rfl⟩
    obtain ⟨p1, p2, _⟩ := path_any hb hlt he hj
    have hs := str_iff hb hlt he hj l
    have h0 := Nat.two_pow_pos l
    have h1 := Nat.div_add_mod m (2 ^ l)
    have h2 := Nat.mod_lt m h0
    rw [Nat.mul_comm] at h1
    have h3 : ∀ q, (q + 1) * 2 ^ l = q * 2 ^ l + 2 ^ l := fun q => Nat.succ_mul _ _
    have key : (lo m < l ∧ l ≤ lo m + t ∧ (m / 2 ^ l, gv h f (l, m / 2 ^ l)) = (i, gv h f (l, i))) ↔ (b ≤ i * 2 ^ l ∧ (i + 1) * 2 ^ l ≤ e ∧ i * 2 ^ l < m ∧ m < (i + 1) * 2 ^ l) := by
      constructor
      · rintro ⟨a1, a2, a3⟩
        injection a3 with a3 _
        have hl := p2 (by omega)
        rw [hl] at a1 a2
        obtain ⟨⟨c1, c2⟩, c3⟩ := hs.2 ⟨a1, a2⟩
        rw [a3] at c1 c2 h1
        have := h3 i
        exact ⟨c1, c2, by omega, by omega⟩
      · rintro ⟨a1, a2, a3, a4⟩
        have := h3 i
        have hi : m / 2 ^ l = i := by
          rw [show m = (m - i * 2 ^ l) + i * 2 ^ l by omega, Nat.add_mul_div_right _ _ h0, Nat.div_eq_of_lt (by omega), Nat.zero_add]
        have hS : Str b m e l := by
          rw [hi] at h1
          exact ⟨⟨by rw [hi]; exact a1, by rw [hi]; exact a2⟩, by omega⟩
        obtain ⟨d1, d2⟩ := hs.1 hS
        have hl := p2 (by omega)
        rw [hl, hi]
        exact ⟨d1, d2, rfl⟩
    rw [toldR_lt h f hlt, count_map_lev (lo m) _ l (fun n => (m / 2 ^ n, gv h f (n, m / 2 ^ n))) (i, gv h f (l, i)), p1]
    by_cases hk : lo m < l ∧ l ≤ lo m + t ∧ (m / 2 ^ l, gv h f (l, m / 2 ^ l)) = (i, gv h f (l, i))
    · rw [if_pos hk, if_pos (key.1 hk)]
    · rw [if_neg hk, if_neg (fun h' => hk (key.2 h'))]
  · obtain rfl : m = e := by omega
    rw [toldR_ge h f (by omega), if_neg (by omega)]
    rfl
/-- How many levels below k have such a tree. -/
def strs (b m e : Nat) : Nat → Nat
  | 0 => 0
  | k + 1 => strs b m e k + if Str b m e k then 1 else 0
theorem strs_le (b m e : Nat) : ∀ k, strs b m e k ≤ k
  | 0 => Nat.le_refl _
  | k + 1 => by
    have := strs_le b m e k
    rw [strs]; split <;> omega
theorem strs_mono (b m e : Nat) : ∀ k l, l ≤ k → strs b m e l ≤ strs b m e k
  | 0, l, h => by rw [Nat.le_zero.1 h]; exact Nat.le_refl _
  | k + 1, l, h => by
    rcases Nat.lt_or_ge l (k + 1) with h1 | h1
    · have := strs_mono b m e k l (by omega)
      rw [strs]; omega
    · rw [show l = k + 1 by omega]; exact Nat.le_refl _
theorem strs_one (b m e : Nat) : strs b m e 1 = 0 := by
  rw [strs, strs, if_neg (fun h => h.2 (by rw [Nat.pow_zero, Nat.mod_one]))]
theorem strs_len (h : HF) (f : Nat → List Nat) {b m e : Nat} (hb : b ≤ m) (hm : m ≤ e) (he : e < 18446744073709551616) (hw : e - b ≤ 255) : (toldR h f b m e).length = strs b m e 9 := by
  rcases Nat.lt_or_ge m e with hlt | hge
  · obtain ⟨l, t, hj⟩ : ∃ l t, jz 64 b m e = (l, t) := ⟨_, _, rfl⟩
    rw [toldR_len hb hlt he hj]
    have hs := str_iff hb hlt he hj
    have key : ∀ k, strs b m e k = min k (l + t + 1) - min k (l + 1) := by
      intro k
      induction k with
      | zero => rw [strs]; omega
      | succ k ih =>
        rw [strs, ih]
        by_cases h1 : Str b m e k
        · have h2 := (hs k).1 h1
          rw [if_pos h1]; omega
        · have h2 : ¬ (l < k ∧ k ≤ l + t) := fun h => h1 ((hs k).2 h)
          rw [if_neg h1]; omega
    rw [key]
    rcases Nat.eq_zero_or_pos t with h0 | h0
    · subst h0; omega
    · obtain ⟨⟨c1, c2⟩, _⟩ := (hs (l + t)).2 ⟨by omega, Nat.le_refl _⟩
      have h3 : (m / 2 ^ (l + t) + 1) * 2 ^ (l + t) = m / 2 ^ (l + t) * 2 ^ (l + t) + 2 ^ (l + t) := Nat.succ_mul _ _
      have h4 : l + t < 8 := by
        rcases Nat.lt_or_ge (l + t) 8 with h | h
        · exact h
        · have := Nat.pow_le_pow_right (show 0 < 2 by omega) h
          omega
      omega
  · obtain rfl : m = e := by omega
    have key : ∀ k, strs b m m k = 0 := by
      intro k
      induction k with
      | zero => rfl
      | succ k ih =>
        rw [strs, ih, if_neg (fun h => by
          obtain ⟨⟨_, c2⟩, c3⟩ := h
          have h0 := Nat.two_pow_pos k
          have h1 := Nat.div_add_mod m (2 ^ k)
          have h2 := Nat.mod_lt m h0
          have h3 : (m / 2 ^ k + 1) * 2 ^ k = m / 2 ^ k * 2 ^ k + 2 ^ k := Nat.succ_mul _ _
          rw [Nat.mul_comm] at h1
          omega)]
    rw [toldR_ge h f (by omega), key]
    rfl
/-- A tree (l, i) that has leaves of both. -/
def Straddle (b m e l i : Nat) : Prop := b ≤ i * 2 ^ l ∧ (i + 1) * 2 ^ l ≤ e ∧ i * 2 ^ l < m ∧ m < (i + 1) * 2 ^ l
theorem straddle_iff (b m e l i : Nat) : Straddle b m e l i ↔ i = m / 2 ^ l ∧ Str b m e l := by
  have h0 := Nat.two_pow_pos l
  have h1 := Nat.div_add_mod m (2 ^ l)
  have h2 := Nat.mod_lt m h0
  rw [Nat.mul_comm] at h1
  have h3 : (i + 1) * 2 ^ l = i * 2 ^ l + 2 ^ l := Nat.succ_mul _ _
  unfold Straddle
  constructor
  · rintro ⟨a1, a2, a3, a4⟩
    have hi : m / 2 ^ l = i := by
      rw [show m = (m - i * 2 ^ l) + i * 2 ^ l by omega, Nat.add_mul_div_right _ _ h0, Nat.div_eq_of_lt (by omega), Nat.zero_add]
    refine ⟨hi.symm, ⟨by rw [hi]; exact a1, by rw [hi]; exact a2⟩, ?_⟩
    rw [hi] at h1
    omega
  · rintro ⟨hi, ⟨c1, c2⟩, c3⟩
    rw [← hi] at c1 c2 h1
    exact ⟨c1, c2, by omega, by omega⟩
/-- One where such a tree stands ahead of the place i. -/
def sat (b m e l i : Nat) : Nat := if Str b m e l ∧ m / 2 ^ l < i then 1 else 0
theorem sat_le (b m e l i : Nat) : sat b m e l i ≤ 1 := by unfold sat; split <;> omega
theorem sat_start {b m : Nat} (e l : Nat) (hb : b ≤ m) : sat b m e l (b / 2 ^ l) = 0 := by
  have := Nat.div_le_div_right (c := 2 ^ l) hb
  unfold sat
  rw [if_neg (fun h => by have := h.2; omega)]
theorem sat_yes {b m e l i : Nat} (h : Straddle b m e l i) : sat b m e l (i + 1) = sat b m e l i + 1 := by
  obtain ⟨h1, h2⟩ := (straddle_iff b m e l i).1 h
  unfold sat
  rw [if_pos ⟨h2, by omega⟩, if_neg (fun h => by have := h.2; omega)]
theorem sat_no {b m e l i : Nat} (h : ¬ Straddle b m e l i) : sat b m e l (i + 1) = sat b m e l i := by
  unfold sat
  by_cases h2 : Str b m e l
  · have h1 : ¬ i = m / 2 ^ l := fun h1 => h ((straddle_iff b m e l i).2 ⟨h1, h2⟩)
    by_cases h3 : m / 2 ^ l < i
    · rw [if_pos ⟨h2, by omega⟩, if_pos ⟨h2, h3⟩]
    · rw [if_neg (fun h => by have := h.2; omega), if_neg (fun h => h3 h.2)]
  · rw [if_neg (fun h => h2 h.1), if_neg (fun h => h2 h.1)]
theorem sat_end (b m e l : Nat) : strs b m e (l + 1) = strs b m e l + sat b m e l (e / 2 ^ l) := by
  rw [strs]
  unfold sat
  by_cases h2 : Str b m e l
  · have h3 : m / 2 ^ l + 1 ≤ e / 2 ^ l := (Nat.le_div_iff_mul_le (Nat.two_pow_pos l)).2 h2.1.2
    rw [if_pos h2, if_pos ⟨h2, by omega⟩]
  · rw [if_neg h2, if_neg (fun h => h2 h.1)]
end Go.Proofs.YtpdmmmcelkinjaaFmt.Pl
