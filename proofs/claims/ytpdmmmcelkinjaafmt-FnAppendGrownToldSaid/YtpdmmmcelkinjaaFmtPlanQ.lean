/- What the nodes of a plan cover, in plain numbers. -/
import Derived.Test.YtpdmmmcelkinjaaFmtPlanP
open Go
namespace Go.Proofs.YtpdmmmcelkinjaaFmt.Pl
theorem half_le (i n l : Nat) : i / 2 ^ n * 2 ^ (l + n) ≤ i * 2 ^ l := by
  have h : i / 2 ^ n * 2 ^ (l + n) = i / 2 ^ n * 2 ^ n * 2 ^ l := by rw [Nat.pow_add, Nat.mul_assoc, Nat.mul_comm (2 ^ n)]
  rw [h]
  exact Nat.mul_le_mul_right _ (Nat.div_mul_le_self _ _)
theorem half_lt (i n l : Nat) : (i + 1) * 2 ^ l ≤ (i / 2 ^ n + 1) * 2 ^ (l + n) := by
  have h : (i / 2 ^ n + 1) * 2 ^ (l + n) = (i / 2 ^ n + 1) * 2 ^ n * 2 ^ l := by rw [Nat.pow_add, Nat.mul_assoc, Nat.mul_comm (2 ^ n)]
  rw [h]
  apply Nat.mul_le_mul_right
  have := Nat.lt_div_mul_add (a := i) (b := 2 ^ n) (Nat.two_pow_pos n)
  rw [Nat.add_mul, Nat.one_mul]
  omega
/-- The sibling lies in the parent, beside the node. -/
theorem sib_in (i l : Nat) : i / 2 * 2 ^ (l + 1) ≤ (i ^^^ 1) * 2 ^ l ∧ ((i ^^^ 1) + 1) * 2 ^ l ≤ (i / 2 + 1) * 2 ^ (l + 1) ∧ (((i ^^^ 1) + 1) * 2 ^ l ≤ i * 2 ^ l ∨ (i + 1) * 2 ^ l ≤ (i ^^^ 1) * 2 ^ l) := by
  have e1 : ∀ x : Nat, x * 2 ^ (l + 1) = (x * 2) * 2 ^ l := fun x => by rw [Nat.pow_succ, Nat.mul_comm (2 ^ l) 2, Nat.mul_assoc]
  rw [e1, e1, xor1]
  split
  · exact ⟨Nat.mul_le_mul_right _ (by omega), Nat.mul_le_mul_right _ (by omega), .inl (Nat.mul_le_mul_right _ (by omega))⟩
  · exact ⟨Nat.mul_le_mul_right _ (by omega), Nat.mul_le_mul_right _ (by omega), .inr (Nat.mul_le_mul_right _ (by omega))⟩
/-- Where a node's leaves begin and end. -/
def nb (p : Nat × Nat) : Nat := p.2 * 2 ^ p.1
def ne (p : Nat × Nat) : Nat := (p.2 + 1) * 2 ^ p.1
theorem sibs_in : ∀ (n l i : Nat), ∀ p ∈ sibs l i n, i / 2 ^ n * 2 ^ (l + n) ≤ nb p ∧ ne p ≤ (i / 2 ^ n + 1) * 2 ^ (l + n) ∧ (ne p ≤ i * 2 ^ l ∨ (i + 1) * 2 ^ l ≤ nb p)
  | 0, _, _, p, hp => by cases hp
  | n + 1, l, i, p, hp => by
    have e : ∀ x : Nat, x / 2 ^ (n + 1) = x / 2 / 2 ^ n := fun x => by rw [Nat.div_div_eq_div_mul, Nat.pow_succ, Nat.mul_comm]
    rw [e, show l + (n + 1) = l + 1 + n by omega]
    rw [sibs, List.mem_cons] at hp
    have s := sib_in i l
    rcases hp with rfl | hp
    · have h1 := half_le (i / 2) n (l + 1)
      have h2 := half_lt (i / 2) n (l + 1)
      exact ⟨Nat.le_trans h1 s.1, Nat.le_trans s.2.1 h2, s.2.2⟩
    · obtain ⟨a, b, c⟩ := sibs_in n (l + 1) (i / 2) p hp
      have h1 := half_le i 1 l
      have h2 := half_lt i 1 l
      rw [Nat.pow_one] at h1 h2
      exact ⟨a, b, c.elim (fun h => .inl (Nat.le_trans h h1)) fun h => .inr (Nat.le_trans h2 h)⟩
theorem pieces_nil {b e : Nat} (h : e ≤ b) : pieces b e = [] := pcs_nil _ _ _ _ h
theorem pieces_in (e : Nat) (he : e < 18446744073709551616) : ∀ (n b : Nat), e - b = n → ∀ p ∈ pieces b e, b ≤ nb p ∧ ne p ≤ e := by
  intro n
  induction n using Nat.strongRecOn with
  | ind n ih =>
    intro b hb p hp
    rcases Nat.lt_or_ge b e with h | h
    · obtain ⟨l, hl, _, hst, hdv, hle⟩ := pieces_step h he
      have hp2 := Nat.two_pow_pos l
      rw [hst, List.mem_cons] at hp
      rcases hp with rfl | hp
      · unfold nb ne
        simp only []
        rw [Nat.add_mul, hdv]
        omega
      · obtain ⟨a, c⟩ := ih (e - (b + 2 ^ l)) (by omega) (b + 2 ^ l) rfl p hp
        exact ⟨by omega, c⟩
    · rw [pieces_nil h] at hp; cases hp
def wsum : List (Nat × Nat) → Nat
  | [] => 0
  | p :: L => 2 ^ p.1 + wsum L
theorem wsum_append : ∀ L M : List (Nat × Nat), wsum (L ++ M) = wsum L + wsum M
  | [], M => by simp [wsum]
  | p :: L, M => by rw [List.cons_append, wsum, wsum, wsum_append L M, Nat.add_assoc]
theorem wsum_reverse : ∀ L : List (Nat × Nat), wsum L.reverse = wsum L
  | [] => rfl
  | p :: L => by rw [List.reverse_cons, wsum_append, wsum_reverse L]; simp [wsum]; omega
theorem wsum_sibs : ∀ (n l i : Nat), wsum (sibs l i n) + 2 ^ l = 2 ^ (l + n)
  | 0, l, i => by simp [sibs, wsum]
  | n + 1, l, i => by
    have := wsum_sibs n (l + 1) (i / 2)
    rw [sibs, wsum, show l + (n + 1) = l + 1 + n by omega, ← this, Nat.pow_succ]
    simp only []; omega
theorem wsum_pieces (e : Nat) (he : e < 18446744073709551616) : ∀ (n b : Nat), e - b = n → wsum (pieces b e) = e - b := by
  intro n
  induction n using Nat.strongRecOn with
  | ind n ih =>
    intro b hb
    rcases Nat.lt_or_ge b e with h | h
    · obtain ⟨l, hl, _, hst, hdv, hle⟩ := pieces_step h he
      have hp2 := Nat.two_pow_pos l
      rw [hst, wsum, ih (e - (b + 2 ^ l)) (by omega) (b + 2 ^ l) rfl]
      simp only []; omega
    · rw [pieces_nil h, wsum]; omega
theorem fbeg_le (l i d : Nat) : fbeg l i d ≤ i * 2 ^ l := half_le i d l
theorem le_fend (l i d : Nat) : (i + 1) * 2 ^ l ≤ fend l i d := half_lt i d l
/-- Every node of a plan is there. -/
theorem plan_within {l i s : Nat} (h : i < s / 2 ^ l) (hs : s < 18446744073709551616) : ∀ p ∈ planL l i s, ne p ≤ s := by
  obtain ⟨u1, u2, u3, u4, u5⟩ := up_spec h hs
  have hp2 := Nat.two_pow_pos (l + up l i s)
  intro p hp
  unfold planL at hp
  rw [List.mem_append, List.mem_append, List.mem_cons, List.mem_reverse, List.mem_reverse] at hp
  rcases hp with ((rfl | hp) | hp) | hp
  · exact Nat.le_trans (le_fend l i _) u4
  · exact Nat.le_trans (sibs_in _ _ _ p hp).2.1 u4
  · exact (pieces_in s hs _ _ rfl p hp).2
  · have := (pieces_in (fbeg l i (up l i s)) (by omega) _ _ rfl p hp).2; omega
/-- No node of a plan but the first covers what the first covers; all together cover the rest. -/
theorem plan_apart {l i s : Nat} (h : i < s / 2 ^ l) (hs : s < 18446744073709551616) : ∀ p ∈ (planL l i s).tail, ne p ≤ i * 2 ^ l ∨ (i + 1) * 2 ^ l ≤ nb p := by
  obtain ⟨u1, u2, u3, u4, u5⟩ := up_spec h hs
  have hp2 := Nat.two_pow_pos (l + up l i s)
  intro p hp
  unfold planL at hp
  rw [List.cons_append, List.cons_append, List.tail_cons, List.mem_append, List.mem_append, List.mem_reverse, List.mem_reverse] at hp
  rcases hp with (hp | hp) | hp
  · exact (sibs_in _ _ _ p hp).2.2
  · exact .inr (Nat.le_trans (le_fend l i _) (pieces_in s hs _ _ rfl p hp).1)
  · exact .inl (Nat.le_trans (pieces_in (fbeg l i (up l i s)) (by omega) _ _ rfl p hp).2 (fbeg_le l i _))
theorem plan_sum {l i s : Nat} (h : i < s / 2 ^ l) (hs : s < 18446744073709551616) : wsum (planL l i s).tail + 2 ^ l = s := by
  obtain ⟨u1, u2, u3, u4, u5⟩ := up_spec h hs
  have hp2 := Nat.two_pow_pos (l + up l i s)
  unfold planL
  rw [List.cons_append, List.cons_append, List.tail_cons, wsum_append, wsum_append, wsum_reverse, wsum_reverse, wsum_pieces s hs _ _ rfl, wsum_pieces _ (by omega) _ _ rfl]
  have := wsum_sibs (up l i s) l i
  omega
theorem plan_len {l i s : Nat} (h : i < s / 2 ^ l) (hs : s < 18446744073709551616) : (planL l i s).length ≤ 1000 := by
  have l1 := pieces_len (fend l i (up l i s)) s hs
  have hu := up_spec h hs
  have hp2 := Nat.two_pow_pos (l + up l i s)
  have l0 := pieces_len 0 (fbeg l i (up l i s)) (by omega)
  unfold planL
  simp [sibs_length]
  omega
end Go.Proofs.YtpdmmmcelkinjaaFmt.Pl
