/- The way up from a node in its three parts; the consistency proof as ranges. -/
import Derived.Test.YtpdmmmcelkinjaaFmtUp
open Go
namespace Go.Proofs.YtpdmmmcelkinjaaFmt.Pl
/-- The tree that is not whole. -/
def mid (l i s : Nat) : List (Nat × Nat) := if fend l i (up l i s) < s then [(fend l i (up l i s), s - fend l i (up l i s))] else []
theorem up_parts {l i s : Nat} (h : i < s / 2 ^ l) (hs : s < 18446744073709551616) :
    upS (64 - l) l i s = (sibs l i (up l i s)).map rng ++ mid l i s ++ ((pieces 0 (fbeg l i (up l i s))).reverse).map rng := by
  obtain ⟨u1, u2, u3, u4, u5⟩ := up_spec h hs
  unfold mid
  generalize up l i s = d at *
  have e0 : 64 - l = d + ((63 - (l + d)) + 1) := by omega
  rw [e0, upS_add, upS_sibs d l i s u4, upS, List.append_assoc]
  congr 1
  have hp := Nat.two_pow_pos (l + d)
  have e1 : s / 2 ^ (l + d) = i / 2 ^ d + 1 := by rw [Nat.pow_add, ← Nat.div_div_eq_div_mul]; exact u3
  have hlt : s < fend l i d + 2 ^ (l + d) := by
    have := Nat.lt_mul_of_div_lt (a := s) (b := i / 2 ^ d + 1 + 1) (c := 2 ^ (l + d)) (by omega) hp
    unfold fend
    rw [Nat.add_mul (i / 2 ^ d + 1) 1, Nat.one_mul] at this
    exact this
  have e2 : i / 2 ^ d / 2 = s / 2 ^ (l + d + 1) := by rw [Nat.pow_succ, ← Nat.div_div_eq_div_mul, e1]; omega
  rw [upS_left _ (l + d + 1) _ s e2]
  congr 1
  · unfold sibAt
    rw [if_neg (by omega)]
    show (if fend l i d < s then [(fend l i d, min (2 ^ (l + d)) (s - fend l i d))] else []) = _
    by_cases hf : fend l i d < s
    · rw [if_pos hf, if_pos hf, Nat.min_eq_right (by omega)]
    · rw [if_neg hf, if_neg hf]
  · have e3 : pieces 0 (fbeg l i d) = pcs (63 - (l + d)) (l + d + 1) 0 (i / 2 ^ d / 2) := by
      unfold pieces fbeg
      rw [show (64 : Nat) = (64 - (l + d)) + (l + d) by omega, pcs_pow, Nat.zero_add, show 64 - (l + d) = (63 - (l + d)) + 1 by omega]
      conv => lhs; rw [show i / 2 ^ d = 2 * (i / 2 ^ d / 2) by omega]
      rw [pcs_even]
    rw [e3]
theorem pieces_empty {b e : Nat} (he : e < 18446744073709551616) : (pieces b e).length = 0 ↔ e ≤ b := by
  constructor
  · intro h
    rcases Nat.lt_or_ge b e with hlt | hge
    · obtain ⟨l, _, _, hst, _⟩ := pieces_step hlt he
      rw [hst] at h; simp at h
    · exact hge
  · intro h; rw [pieces_nil h]; rfl
theorem mid_len {l i s : Nat} (hs : s < 18446744073709551616) : (mid l i s).length = if (pieces (fend l i (up l i s)) s).length = 0 then 0 else 1 := by
  unfold mid
  by_cases h : fend l i (up l i s) < s
  · rw [if_pos h, if_neg (by rw [pieces_empty hs]; omega)]; rfl
  · rw [if_neg h, if_pos (by rw [pieces_empty hs]; omega)]; rfl
theorem sides_parts {i s : Nat} (h : i < s) (hs : s < 18446744073709551616) :
    sides 0 i s = (sibs 0 i (up 0 i s)).map rng ++ mid 0 i s ++ ((pieces 0 (fbeg 0 i (up 0 i s))).reverse).map rng := by
  have h0 : i < s / 2 ^ 0 := by simpa using h
  have := up_parts h0 hs
  rw [← this, sides_up 64 0 i s (by decide) h (by omega)]
  simp

/-! ### The consistency proof -/
def cproof (a m n : Nat) (whole : Bool) : List (Nat × Nat) :=
  if m = n then (if whole then [] else [(a, n)]) else
  if _hn : n ≤ 1 then [] else if m ≤ split n then cproof a m (split n) whole ++ [(a + split n, n - split n)] else cproof (a + split n) (m - split n) (n - split n) false ++ [(a, split n)]
termination_by n
decreasing_by
  · exact (split_spec (by omega)).1
  · have := split_pos n; omega
theorem cproof_eq (a n : Nat) (whole : Bool) : cproof a n n whole = if whole then [] else [(a, n)] := by rw [cproof, if_pos rfl]
theorem cproof_l {a m n : Nat} {whole : Bool} (hm : m ≠ n) (hn : 2 ≤ n) (h : m ≤ split n) : cproof a m n whole = cproof a m (split n) whole ++ [(a + split n, n - split n)] := by
  rw [cproof, if_neg hm, dif_neg (by omega), if_pos h]
theorem cproof_r {a m n : Nat} {whole : Bool} (hm : m ≠ n) (hn : 2 ≤ n) (h : ¬ m ≤ split n) : cproof a m n whole = cproof (a + split n) (m - split n) (n - split n) false ++ [(a, split n)] := by
  rw [cproof, if_neg hm, dif_neg (by omega), if_neg h]
/-- What is known of the first tree: it is whole, or one node of it is told. -/
def seedR (a m t q : Nat) (whole : Bool) : List (Nat × Nat) := if whole = true ∧ q = 0 then [] else [(a + m - 2 ^ t, 2 ^ t)]
theorem cproof_up : ∀ (K a m n t q : Nat) (whole : Bool), a % 2 ^ K = 0 → m = 2 ^ t * (2 * q + 1) → m ≤ n → n ≤ 2 ^ K → (m < n ∨ q = 0) →
    t ≤ K ∧ cproof a m n whole = seedR a m t q whole ++ upS (K - t) t ((a + m - 1) / 2 ^ t) (a + n)
  | 0, a, m, n, t, q, whole, ha, hm, hmn, hn, hq => by
    have hp := Nat.two_pow_pos t
    have h1 : 2 ^ t * 1 ≤ 2 ^ t * (2 * q + 1) := Nat.mul_le_mul_left _ (by omega)
    have hn1 : n ≤ 1 := by simpa using hn
    have ht : t = 0 := by
      rcases Nat.eq_zero_or_pos t with h | h
      · exact h
      · have : 2 ^ 1 ≤ 2 ^ t := Nat.pow_le_pow_right (by decide) h
        omega
    subst ht
    have hn2 : n = 1 := by omega
    have hm2 : m = 1 := by omega
    have hq0 : q = 0 := by simp at hm; omega
    subst hn2 hm2 hq0
    rw [cproof_eq]
    refine ⟨Nat.le_refl _, ?_⟩
    cases whole <;> simp [seedR, upS]
  | K + 1, a, m, n, t, q, whole, ha, hm, hmn, hn, hq => by
    have hp := Nat.two_pow_pos t
    have hpK := Nat.two_pow_pos K
    have h1 : 2 ^ t * 1 ≤ 2 ^ t * (2 * q + 1) := Nat.mul_le_mul_left _ (by omega)
    obtain ⟨c, rfl⟩ := Nat.dvd_of_mod_eq_zero ha
    have hmod : ∀ x, (2 ^ (K + 1) * c + 2 ^ K * x) % 2 ^ K = 0 := fun x => by
      rw [Nat.pow_succ, Nat.mul_assoc, ← Nat.mul_add, Nat.mul_mod_right]
    have hd : ∀ x, (2 ^ (K + 1) * c + x) / 2 ^ K = 2 * c + x / 2 ^ K := fun x => by
      rw [Nat.pow_succ, Nat.mul_assoc, Nat.mul_add_div hpK]
    have hk : 2 ^ (K + 1) = 2 ^ K + 2 ^ K := by rw [Nat.pow_succ]; omega
    have e1 : (2 * c + 1) * 2 ^ K = 2 ^ (K + 1) * c + 2 ^ K := by
      rw [Nat.pow_succ, Nat.add_mul, Nat.one_mul, Nat.mul_assoc (2 ^ K), Nat.mul_comm (2 ^ K) (2 * c)]
    have hsnoc : t ≤ K → upS (K + 1 - t) t ((2 ^ (K + 1) * c + m - 1) / 2 ^ t) (2 ^ (K + 1) * c + n) = upS (K - t) t ((2 ^ (K + 1) * c + m - 1) / 2 ^ t) (2 ^ (K + 1) * c + n) ++ sibAt K ((2 ^ (K + 1) * c + m - 1) / 2 ^ K) (2 ^ (K + 1) * c + n) := fun htK => by
      rw [show K + 1 - t = (K - t) + 1 by omega, upS_snoc, show t + (K - t) = K by omega, Nat.div_div_eq_div_mul, ← Nat.pow_add, show t + (K - t) = K by omega]
    rcases Nat.lt_or_ge (2 ^ K) n with h2 | h2
    · have hs : split n = 2 ^ K := split_eq h2 hn
      have h2n : 2 ≤ n := by omega
      by_cases hmn2 : m = n
      · have hq0 : q = 0 := by omega
        subst hmn2 hq0
        have ht : t = K + 1 := by
          have h3 : 2 ^ t = m := by omega
          rcases Nat.lt_or_ge t (K + 1) with h | h
          · have : 2 ^ t ≤ 2 ^ K := Nat.pow_le_pow_right (by decide) (by omega)
            omega
          · rcases Nat.lt_or_ge (K + 1) t with h' | h'
            · have : 2 ^ (K + 1 + 1) ≤ 2 ^ t := Nat.pow_le_pow_right (by decide) h'
              rw [Nat.pow_succ] at this
              omega
            · omega
        refine ⟨by omega, ?_⟩
        rw [cproof_eq, ht, Nat.sub_self]
        unfold seedR upS
        have h3 : 2 ^ (K + 1) = m := by rw [← ht]; omega
        rw [h3]
        cases whole <;> simp
      · rcases Nat.lt_or_ge (2 ^ K) m with hi | hi
        · -- behind the split
          have hm' : m - 2 ^ K < n - 2 ^ K := by omega
          have htK : t ≤ K := by
            rcases Nat.lt_or_ge K t with h | h
            · exfalso
              have h3 : 2 ^ (K + 1) ≤ 2 ^ t := Nat.pow_le_pow_right (by decide) h
              omega
            · exact h
          have htK2 : t < K + 1 := by omega
          obtain ⟨q', hq'⟩ : ∃ q', m - 2 ^ K = 2 ^ t * (2 * q' + 1) := by
            rcases Nat.lt_or_ge t K with h | h
            · refine ⟨q - 2 ^ (K - t - 1), ?_⟩
              have e3 : 2 ^ K = 2 ^ t * (2 * 2 ^ (K - t - 1)) := by rw [← Nat.pow_succ', ← Nat.pow_add]; congr 1; omega
              have h4 : 2 ^ t * (2 * 2 ^ (K - t - 1)) < 2 ^ t * (2 * q + 1) := by omega
              have h5 := Nat.lt_of_mul_lt_mul_left h4
              rw [hm, e3, ← Nat.mul_sub]
              congr 1; omega
            · exfalso
              have hKt : t = K := by omega
              subst hKt
              have h4 : 2 ^ t * (2 * q + 1) < 2 ^ t * 2 := by omega
              have h5 := Nat.lt_of_mul_lt_mul_left h4
              have hq0 : q = 0 := by omega
              subst hq0
              omega
          obtain ⟨_, hr⟩ := cproof_up K (2 ^ (K + 1) * c + 2 ^ K) (m - 2 ^ K) (n - 2 ^ K) t q' false (by simpa using hmod 1) hq' (by omega) (by omega) (.inl hm')
          refine ⟨by omega, ?_⟩
          rw [cproof_r hmn2 h2n (by omega), hs, hr, hsnoc htK, show 2 ^ (K + 1) * c + 2 ^ K + (m - 2 ^ K) = 2 ^ (K + 1) * c + m by omega, show 2 ^ (K + 1) * c + 2 ^ K + (n - 2 ^ K) = 2 ^ (K + 1) * c + n by omega, ← List.append_assoc]
          congr 1
          · congr 1
            unfold seedR
            have hq0 : q ≠ 0 := by
              rintro rfl
              rcases Nat.lt_or_ge t K with h | h
              · have : 2 ^ t ≤ 2 ^ K := Nat.pow_le_pow_right (by decide) (by omega)
                omega
              · have : t = K := by omega
                subst this; omega
            rw [if_neg (by simp), if_neg (by simp [hq0]), show 2 ^ (K + 1) * c + 2 ^ K + (m - 2 ^ K) = 2 ^ (K + 1) * c + m by omega]
          · have e4 : (2 ^ (K + 1) * c + m - 1) / 2 ^ K = 2 * c + 1 := by
              rw [show 2 ^ (K + 1) * c + m - 1 = 2 ^ (K + 1) * c + (m - 1) by omega, hd, Nat.div_eq_of_lt_le (k := 1) (by omega) (by omega)]
            rw [e4]
            unfold sibAt
            rw [if_pos (by omega), Nat.add_sub_cancel, Nat.pow_succ, Nat.mul_assoc, Nat.mul_comm (2 ^ K)]
        · obtain ⟨htK, hr⟩ := cproof_up K (2 ^ (K + 1) * c) m (2 ^ K) t q whole (by simpa using hmod 0) hm hi (Nat.le_refl _) (by
            rcases Nat.lt_or_ge m (2 ^ K) with h | h
            · exact .inl h
            · right
              have hmK : m = 2 ^ K := by omega
              rw [hmK] at hm
              rcases Nat.eq_zero_or_pos q with h0 | h0
              · exact h0
              · exfalso
                rcases Nat.lt_or_ge t K with h | h
                · have e3 : 2 ^ K = 2 ^ t * (2 * 2 ^ (K - t - 1)) := by rw [← Nat.pow_succ', ← Nat.pow_add]; congr 1; omega
                  rw [e3] at hm
                  have := Nat.eq_of_mul_eq_mul_left hp hm
                  omega
                · have h3 : 2 ^ K ≤ 2 ^ t := Nat.pow_le_pow_right (by decide) h
                  have h4 : 2 ^ t * 3 ≤ 2 ^ t * (2 * q + 1) := Nat.mul_le_mul_left _ (by omega)
                  omega)
          refine ⟨by omega, ?_⟩
          rw [cproof_l hmn2 h2n (by omega), hs, hr, hsnoc htK, ← List.append_assoc]
          have hfull : upS (K - t) t ((2 ^ (K + 1) * c + m - 1) / 2 ^ t) (2 ^ (K + 1) * c + 2 ^ K) = upS (K - t) t ((2 ^ (K + 1) * c + m - 1) / 2 ^ t) (2 ^ (K + 1) * c + n) := by
            have hA := upS_full (M := 2 ^ (K + 1) * c + 2 ^ K) (e := 2 ^ (K + 1) * c + n) (x := 2 ^ (K + 1) * c + m - 1) (by omega) (by omega) K (by simpa using hmod 1)
            have hB := upS_full (M := 2 ^ (K + 1) * c + 2 ^ K) (e := 2 ^ (K + 1) * c + n) (x := 2 ^ (K + 1) * c + m - 1) (by omega) (by omega) t (by
              have := Nat.mod_mul_right_mod (2 ^ (K + 1) * c + 2 ^ K) (2 ^ t) (2 ^ (K - t))
              rw [← Nat.pow_add, show t + (K - t) = K by omega, show (2 ^ (K + 1) * c + 2 ^ K) % 2 ^ K = 0 by simpa using hmod 1] at this
              simpa using this.symm)
            rw [show K = t + (K - t) by omega, upS_add, upS_add, ← show K = t + (K - t) by omega, hB, Nat.zero_add] at hA
            exact List.append_cancel_left hA
          rw [hfull]
          congr 1
          have e4 : (2 ^ (K + 1) * c + m - 1) / 2 ^ K = 2 * c := by
            rw [show 2 ^ (K + 1) * c + m - 1 = 2 ^ (K + 1) * c + (m - 1) by omega, hd, Nat.div_eq_of_lt (by omega), Nat.add_zero]
          rw [e4]
          unfold sibAt
          rw [if_neg (by omega), e1, if_pos (by omega), Nat.min_eq_right (by omega), show 2 ^ (K + 1) * c + n - (2 ^ (K + 1) * c + 2 ^ K) = n - 2 ^ K by omega]
    · obtain ⟨htK, hr⟩ := cproof_up K (2 ^ (K + 1) * c) m n t q whole (by simpa using hmod 0) hm hmn h2 hq
      refine ⟨by omega, ?_⟩
      rw [hr, hsnoc htK]
      have e4 : (2 ^ (K + 1) * c + m - 1) / 2 ^ K = 2 * c := by
        rw [show 2 ^ (K + 1) * c + m - 1 = 2 ^ (K + 1) * c + (m - 1) by omega, hd, Nat.div_eq_of_lt (by omega), Nat.add_zero]
      have e2 : sibAt K (2 * c) (2 ^ (K + 1) * c + n) = [] := by
        unfold sibAt
        rw [if_neg (by omega), if_neg (by rw [e1]; omega)]
      rw [e4, e2, List.append_nil]
end Go.Proofs.YtpdmmmcelkinjaaFmt.Pl
