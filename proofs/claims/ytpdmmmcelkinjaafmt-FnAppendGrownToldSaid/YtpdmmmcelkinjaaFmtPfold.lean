/- The root of a range from 0 on is folded of the hashes of its pieces. -/
import Derived.Test.YtpdmmmcelkinjaaFmtMth
import Derived.Test.YtpdmmmcelkinjaaFmtPlain3
import Derived.Test.YtpdmmmcelkinjaaFmtParts
import Derived.Test.YtpdmmmcelkinjaaFmtGrowH
namespace Go.Proofs.YtpdmmmcelkinjaaFmt
namespace Pl
/-- Folded from the right. -/
def pfold (h : HF) : List (List Nat) → List Nat
  | [] => []
  | [x] => x
  | x :: y :: r => h.hc x (pfold h (y :: r))
theorem pfold_cons (h : HF) (x : List Nat) (r : List (List Nat)) (hr : 0 < r.length) : pfold h (x :: r) = h.hc x (pfold h r) := by
  cases r with
  | nil => simp at hr
  | cons y r => rfl
def nv (h : HF) (f : Nat → List Nat) (p : Nat × Nat) : List Nat := mr h f (p.2 * 2 ^ p.1) (2 ^ p.1)
theorem mr_pieces (h : HF) (f : Nat → List Nat) (e : Nat) (he : e < 18446744073709551616) : ∀ (n a K : Nat), e - a = n → a < e → a % 2 ^ K = 0 → e - a ≤ 2 ^ K → mr h f a (e - a) = pfold h ((pieces a e).map (nv h f)) := by
  intro n
  induction n using Nat.strongRecOn with
  | ind n ih =>
    intro a K hn hlt hK hle
    obtain ⟨l, hl, ⟨g1, g2, g3⟩, hst, hdv, hle2⟩ := pieces_step hlt he
    have hp := Nat.two_pow_pos l
    rw [hst, List.map_cons]
    have hv : nv h f (l, a / 2 ^ l) = mr h f a (2 ^ l) := by unfold nv; simp only [hdv]
    rw [hv]
    by_cases h1 : e - a = 2 ^ l
    · rw [pieces_nil (b := a + 2 ^ l) (e := e) (by omega), h1]; rfl
    · have hlK : l < K := by
        rcases Nat.lt_or_ge l K with h | h
        · exact h
        · have := Nat.pow_le_pow_right (n := 2) (by decide) h; omega
      have ha : a % 2 ^ (l + 1) = 0 := by
        have : 2 ^ K = 2 ^ (l + 1) * 2 ^ (K - (l + 1)) := by rw [← Nat.pow_add]; congr 1; omega
        rw [this] at hK
        exact Nat.mod_eq_zero_of_dvd (Nat.dvd_trans ⟨_, rfl⟩ (Nat.dvd_of_mod_eq_zero hK))
      have hub : e - a < 2 ^ (l + 1) := by
        rcases g3 with h | h
        · exact absurd ha h
        · exact h
      have hsp : split (e - a) = 2 ^ l := split_eq (by omega) (by omega)
      have hn2 : 2 ≤ e - a := by omega
      have hrest : 0 < ((pieces (a + 2 ^ l) e).map (nv h f)).length := by
        rw [List.length_map]
        rcases Nat.eq_zero_or_pos (pieces (a + 2 ^ l) e).length with h0 | h0
        · rw [pieces_empty he] at h0; omega
        · exact h0
      rw [pfold_cons _ _ _ hrest, mr_two _ _ _ _ hn2, hsp, show e - a - 2 ^ l = e - (a + 2 ^ l) by omega]
      rw [ih (e - (a + 2 ^ l)) (by omega) (a + 2 ^ l) l rfl (by omega) (by rw [Nat.add_mod, g1, Nat.mod_self]; simp) (by rw [Nat.pow_succ] at hub; omega)]
end Pl
end Go.Proofs.YtpdmmmcelkinjaaFmt
/- The nodes at the right border of a tree, in plain numbers. -/
namespace Go.Proofs.YtpdmmmcelkinjaaFmt
namespace Pl
/-- Pieces one behind the other from a up to e, each less than the one before. -/
def Desc : List (Nat × Nat) → Nat → Nat → Prop
  | [], a, e => a = e
  | p :: P, a, e => p.2 * 2 ^ p.1 = a ∧ a % 2 ^ (p.1 + 1) = 0 ∧ e - a < 2 ^ (p.1 + 1) ∧ a + 2 ^ p.1 ≤ e ∧ (∀ q ∈ P, q.1 < p.1) ∧ Desc P (a + 2 ^ p.1) e
theorem desc_lt {P : List (Nat × Nat)} {a e K : Nat} (h : Desc P a e) (hK : e - a < 2 ^ K) : ∀ q ∈ P, q.1 < K := by
  cases P with
  | nil => intro q hq; cases hq
  | cons p P =>
    obtain ⟨_, _, _, h4, h5, _⟩ := h
    have hp : p.1 < K := by
      rcases Nat.lt_or_ge p.1 K with h | h
      · exact h
      · have := Nat.pow_le_pow_right (n := 2) (by decide) h; omega
    intro q hq
    rcases List.mem_cons.1 hq with rfl | hq
    · exact hp
    · have := h5 q hq; omega
theorem desc_pieces (e : Nat) (he : e < 18446744073709551616) : ∀ (n a K : Nat), e - a = n → a ≤ e → a % 2 ^ K = 0 → e - a < 2 ^ K → Desc (pieces a e) a e := by
  intro n
  induction n using Nat.strongRecOn with
  | ind n ih =>
    intro a K hn hle hK hlt
    rcases Nat.lt_or_ge a e with h | h
    · obtain ⟨l, hl, ⟨g1, g2, g3⟩, hst, hdv, hle2⟩ := pieces_step h he
      have hp := Nat.two_pow_pos l
      have hlK : l < K := by
        rcases Nat.lt_or_ge l K with h | h
        · exact h
        · have := Nat.pow_le_pow_right (n := 2) (by decide) h; omega
      have ha : a % 2 ^ (l + 1) = 0 := by
        have : 2 ^ K = 2 ^ (l + 1) * 2 ^ (K - (l + 1)) := by rw [← Nat.pow_add]; congr 1; omega
        rw [this] at hK
        exact Nat.mod_eq_zero_of_dvd (Nat.dvd_trans ⟨_, rfl⟩ (Nat.dvd_of_mod_eq_zero hK))
      have hub : e - a < 2 ^ (l + 1) := by
        rcases g3 with h | h
        · exact absurd ha h
        · exact h
      have hrest : e - (a + 2 ^ l) < 2 ^ l := by rw [Nat.pow_succ] at hub; omega
      have hd := ih (e - (a + 2 ^ l)) (by omega) (a + 2 ^ l) l rfl (by omega) (by rw [Nat.add_mod, g1, Nat.mod_self]; simp) hrest
      rw [hst]
      exact ⟨hdv, ha, hub, hle2, desc_lt hd hrest, hd⟩
    · obtain rfl : a = e := by omega
      rw [show pieces a a = [] from pcs_nil _ _ _ _ (Nat.le_refl _)]
      rfl
/-- Where the piece number k begins. -/
def pos : List (Nat × Nat) → Nat → Nat → Nat
  | _, a, 0 => a
  | [], a, _ + 1 => a
  | p :: P, a, k + 1 => pos P (a + 2 ^ p.1) k
theorem pos_desc : ∀ (P : List (Nat × Nat)) (a e : Nat), Desc P a e → ∀ k (hk : k < P.length), P[k].2 * 2 ^ P[k].1 = pos P a k ∧ pos P a k % 2 ^ (P[k].1 + 1) = 0 ∧ e - pos P a k < 2 ^ (P[k].1 + 1) ∧ pos P a k + 2 ^ P[k].1 ≤ e ∧ pos P a (k + 1) = pos P a k + 2 ^ P[k].1 ∧ ∀ j (hj : j < P.length), k < j → P[j].1 < P[k].1 := by
  intro P
  induction P with
  | nil => intro a e _ k hk; simp at hk
  | cons p P ih =>
    intro a e h k hk
    obtain ⟨h1, h2, h3, h4, h5, h6⟩ := h
    cases k with
    | zero =>
      refine ⟨h1, h2, h3, h4, ?_, fun j hj hkj => ?_⟩
      · cases P <;> rfl
      · cases j with
        | zero => omega
        | succ j => exact h5 _ (List.getElem_mem _)
    | succ k =>
      have := ih (a + 2 ^ p.1) e h6 k (by simpa using hk)
      obtain ⟨b1, b2, b3, b4, b5, b6⟩ := this
      refine ⟨b1, b2, b3, b4, b5, fun j hj hkj => ?_⟩
      cases j with
      | zero => omega
      | succ j => exact b6 j (by simpa using hj) (by omega)
theorem pos_end : ∀ (P : List (Nat × Nat)) (a e : Nat), Desc P a e → pos P a P.length = e := by
  intro P
  induction P with
  | nil => intro a e h; exact h
  | cons p P ih => intro a e h; exact ih _ _ h.2.2.2.2.2
theorem drop_pieces (e : Nat) (he : e < 18446744073709551616) : ∀ (k a : Nat), k ≤ (pieces a e).length → (pieces a e).drop k = pieces (pos (pieces a e) a k) e := by
  intro k
  induction k with
  | zero =>
    intro a _
    rw [show pos (pieces a e) a 0 = a by cases pieces a e <;> rfl]
    rfl
  | succ k ih =>
    intro a hk
    rcases Nat.lt_or_ge a e with h | h
    · obtain ⟨l, hl, _, hst, hdv, hle2⟩ := pieces_step h he
      rw [hst] at hk ⊢
      rw [List.drop_succ_cons]
      exact ih _ (by simpa using hk)
    · rw [show pieces a e = [] from pcs_nil _ _ _ _ h] at hk; simp at hk
/-- A number's least bit is struck. -/
theorem and_pred {A b : Nat} (h : A % 2 ^ (b + 1) = 0) : (A + 2 ^ b) &&& (A + 2 ^ b - 1) = A := by
  have hp := Nat.two_pow_pos b
  obtain ⟨q, rfl⟩ := Nat.dvd_of_mod_eq_zero h
  apply Nat.eq_of_testBit_eq
  intro i
  have e1 : 2 ^ (b + 1) * q + 2 ^ b - 1 = 2 ^ (b + 1) * q + (2 ^ b - 1) := by omega
  have hlt : 2 ^ b < 2 ^ (b + 1) := by rw [Nat.pow_succ]; omega
  rw [Nat.testBit_and, e1, Nat.testBit_two_pow_mul_add q hlt, Nat.testBit_two_pow_mul_add q (by omega), Nat.testBit_two_pow_mul]
  by_cases hi : i < b + 1
  · simp only [hi, if_true]
    have hge : ¬ b + 1 ≤ i := by omega
    simp only [hge, decide_false, Bool.false_and]
    rw [Nat.testBit_two_pow, Nat.testBit_two_pow_sub_one]
    by_cases hb : b = i
    · subst hb; simp
    · simp [hb]
  · have hge : b + 1 ≤ i := by omega
    simp [hi, hge]
/-- The node that is told when the piece k is merged with all behind it. -/
def edge (h : HF) (P : List (Nat × Nat)) (H : List (List Nat)) (k : Nat) : Nat × Nat × List Nat := ((P.getD k (0, 0)).1 + 1, pos P 0 (k + 1) / 2 ^ ((P.getD k (0, 0)).1 + 1), pfold h (H.drop k))
/-- The nodes that are told till the piece k is merged. -/
def edges (h : HF) (P : List (Nat × Nat)) (H : List (List Nat)) (k : Nat) : List (Nat × Nat × List Nat) := (List.range (P.length - 1 - k)).map fun j => edge h P H (P.length - 2 - j)
theorem edges_step (h : HF) (P : List (Nat × Nat)) (H : List (List Nat)) (k : Nat) (hk : k + 1 < P.length) : edges h P H k = edges h P H (k + 1) ++ [edge h P H k] := by
  unfold edges
  rw [show P.length - 1 - k = (P.length - 1 - (k + 1)) + 1 by omega, List.range_succ, List.map_append]
  simp only [List.map_cons, List.map_nil]
  rw [show P.length - 2 - (P.length - 1 - (k + 1)) = k by omega]
theorem edges_start (h : HF) (P : List (Nat × Nat)) (H : List (List Nat)) : edges h P H (P.length - 1) = [] := by
  unfold edges
  rw [Nat.sub_self]; rfl
/-- The index of the node of the edge, and the leaves that it covers. -/
theorem edge_spec (h : HF) (f : Nat → List Nat) (e : Nat) (he : e < 18446744073709551616) (k : Nat) (hk : k + 1 < (pieces 0 e).length) :
    ∃ l i, edge h (pieces 0 e) (ph h f 0 e) k = (l, i, mr h f (i * 2 ^ l) (e - i * 2 ^ l)) ∧ l ≤ 64 ∧ i * 2 ^ l < e ∧ e < (i + 1) * 2 ^ l ∧ l = ((pieces 0 e).getD k (0, 0)).1 + 1 := by
  have hd := desc_pieces e he (e - 0) 0 64 rfl (Nat.zero_le _) (Nat.zero_mod _) (by omega)
  obtain ⟨b1, b2, b3, b4, b5, b6⟩ := pos_desc _ _ _ hd k (by omega)
  have hl := desc_lt hd (K := 64) (by omega) _ (List.getElem_mem (show k < (pieces 0 e).length by omega))
  have hdp := drop_pieces e he k 0 (by omega)
  have hgd : (pieces 0 e).getD k (0, 0) = (pieces 0 e)[k]'(by omega) := by rw [List.getD_eq_getElem?_getD, List.getElem?_eq_getElem (by omega)]; rfl
  have hH : (ph h f 0 e).drop k = (pieces (pos (pieces 0 e) 0 k) e).map (gv h f) := by unfold ph; rw [← List.map_drop, hdp]
  unfold edge
  rw [hgd, hH, b5]
  generalize (pieces 0 e)[k]'(by omega) = p at *
  generalize pos (pieces 0 e) 0 k = a at *
  obtain ⟨l, i⟩ := p
  simp only [] at b1 b2 b3 b4 hl ⊢
  obtain ⟨q, hq⟩ := Nat.dvd_of_mod_eq_zero b2
  have hpl := Nat.two_pow_pos l
  have e1 : (a + 2 ^ l) / 2 ^ (l + 1) = q := by
    rw [hq]
    apply Nat.div_eq_of_lt_le
    · rw [Nat.mul_comm]; omega
    · rw [Nat.add_mul, Nat.one_mul, Nat.mul_comm q, Nat.pow_succ]; omega
  rw [e1]
  have e2 : q * 2 ^ (l + 1) = a := by rw [hq, Nat.mul_comm]
  refine ⟨l + 1, q, ?_, by omega, by rw [e2]; omega, by rw [Nat.add_mul, Nat.one_mul, e2]; omega, rfl⟩
  rw [e2]
  have hK : a % 2 ^ (l + 1) = 0 := b2
  have := mr_pieces h f e he (e - a) a (l + 1) rfl (by omega) hK (by omega)
  rw [this]
  rfl
/-- The root. -/
theorem root_spec (h : HF) (f : Nat → List Nat) (e : Nat) (he : e < 18446744073709551616) (h0 : 0 < e) : pfold h (ph h f 0 e) = mr h f 0 e := by
  have := mr_pieces h f e he e 0 64 (by omega) h0 (Nat.zero_mod _) (by omega)
  rw [Nat.sub_zero] at this
  rw [this]
  rfl
end Pl
end Go.Proofs.YtpdmmmcelkinjaaFmt
