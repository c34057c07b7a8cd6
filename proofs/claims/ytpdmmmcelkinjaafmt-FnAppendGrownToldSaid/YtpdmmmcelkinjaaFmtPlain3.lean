/- Plain facts on the pieces of a range, step by step from the left. -/
import Derived.Test.YtpdmmmcelkinjaaFmtPlain
open Go
namespace Go.Proofs.YtpdmmmcelkinjaaFmt.Pl
/-- What the greedy choice is. -/
def Greedy (b e l : Nat) : Prop := b % 2 ^ l = 0 ∧ 2 ^ l ≤ e - b ∧ (b % 2 ^ (l + 1) ≠ 0 ∨ e - b < 2 ^ (l + 1))
theorem greedy_ex {b e : Nat} (h : b < e) : ∃ l, Greedy b e l := by
  false_or_by_contra
  rename_i hn
  have all : ∀ l, b % 2 ^ l = 0 ∧ 2 ^ l ≤ e - b := by
    intro l
    induction l with
    | zero => simp [Nat.mod_one]; omega
    | succ l ih =>
      refine ⟨?_, ?_⟩
      · false_or_by_contra
        rename_i hc
        exact hn ⟨l, ih.1, ih.2, .inl hc⟩
      · rcases Nat.lt_or_ge (e - b) (2 ^ (l + 1)) with hc | hc
        · exact absurd ⟨l, ih.1, ih.2, .inr hc⟩ hn
        · exact hc
  have := (all (e - b)).2
  have := Nat.lt_two_pow_self (n := e - b)
  omega
theorem pieces_step {b e : Nat} (h : b < e) (he : e < 18446744073709551616) : ∃ l, l ≤ 63 ∧ Greedy b e l ∧ pieces b e = (l, b / 2 ^ l) :: pieces (b + 2 ^ l) e ∧ b / 2 ^ l * 2 ^ l = b ∧ b + 2 ^ l ≤ e := by
  obtain ⟨l, hg⟩ := greedy_ex h
  have hk := pcs_cons 64 0 b e l h he hg.1 hg.2.1 hg.2.2
  rw [Nat.zero_add] at hk
  refine ⟨l, ?_, hg, hk, Nat.div_mul_cancel (Nat.dvd_of_mod_eq_zero hg.1), by have := hg.2.1; omega⟩
  rcases Nat.lt_or_ge 63 l with hc | hc
  · have h1 := Nat.pow_le_pow_right (n := 2) (by omega) (show 64 ≤ l by omega)
    have h2 := hg.2.1
    omega
  · exact hc
end Go.Proofs.YtpdmmmcelkinjaaFmt.Pl
