/- The nodes of a proof's plan, in plain lists. -/
import Derived.Test.YtpdmmmcelkinjaaFmtPlain3
import Derived.Test.YtpdmmmcelkinjaaFmtPlain2
open Go
namespace Go.Proofs.YtpdmmmcelkinjaaFmt.Pl
/-- The siblings of a path: n of them, from level l on. -/
def sibs : Nat → Nat → Nat → List (Nat × Nat)
  | _, _, 0 => []
  | l, i, n + 1 => (l, i ^^^ 1) :: sibs (l + 1) (i / 2) n
theorem sibs_length : ∀ (n l i : Nat), (sibs l i n).length = n
  | 0, _, _ => rfl
  | n + 1, l, i => by rw [sibs, List.length_cons, sibs_length n]
theorem sibs_snoc : ∀ (n l i : Nat), sibs l i (n + 1) = sibs l i n ++ [(l + n, i / 2 ^ n ^^^ 1)]
  | 0, l, i => by simp [sibs]
  | n + 1, l, i => by
    rw [sibs, sibs_snoc n (l + 1) (i / 2), sibs, List.cons_append, Nat.div_div_eq_div_mul, show 2 * 2 ^ n = 2 ^ (n + 1) by rw [Nat.pow_succ, Nat.mul_comm], show l + 1 + n = l + (n + 1) by omega]
def fbeg (l i d : Nat) : Nat := i / 2 ^ d * 2 ^ (l + d)
def fend (l i d : Nat) : Nat := (i / 2 ^ d + 1) * 2 ^ (l + d)
def up (l i s : Nat) : Nat := cut i (s / 2 ^ l)
def planL (l i s : Nat) : List (Nat × Nat) :=
  (l, i) :: sibs l i (up l i s) ++ (pieces (fend l i (up l i s)) s).reverse ++ (pieces 0 (fbeg l i (up l i s))).reverse
/-- Where in the plan the nodes stand of which the ephemeral node is made. -/
def planB (l i s : Nat) : Nat := if (pieces (fend l i (up l i s)) s).length = 0 then 0 else up l i s + 1
def planE (l i s : Nat) : Nat := if (pieces (fend l i (up l i s)) s).length = 0 then 0 else up l i s + 1 + (pieces (fend l i (up l i s)) s).length
/-- The index of the ephemeral node. -/
def ephI (l i s : Nat) : Nat := i / 2 ^ up l i s ^^^ 1
/-- Where the path of i parts from that of x, i goes left and x goes right. -/
theorem cut_spec : ∀ (f i x : Nat), i < x → x < 2 ^ f → cut i x < f ∧ i / 2 ^ cut i x % 2 = 0 ∧ x / 2 ^ cut i x = i / 2 ^ cut i x + 1 := by
  intro f
  induction f with
  | zero => intro i x h hx; simp at hx; omega
  | succ f ih =>
    intro i x h hx
    rw [Nat.pow_succ] at hx
    rcases Nat.lt_or_ge (i / 2) (x / 2) with h2 | h2
    · obtain ⟨a, b, c⟩ := ih (i / 2) (x / 2) h2 (by omega)
      rw [cut_step h2]
      have e : ∀ y : Nat, y / 2 ^ (cut (i / 2) (x / 2) + 1) = y / 2 / 2 ^ cut (i / 2) (x / 2) := fun y => by rw [Nat.div_div_eq_div_mul, Nat.pow_succ, Nat.mul_comm]
      rw [e, e]
      exact ⟨by omega, b, c⟩
    · rw [cut_next h (by omega)]
      simp
      omega
theorem up_spec {l i s : Nat} (h : i < s / 2 ^ l) (hs : s < 18446744073709551616) :
    l + up l i s < 64 ∧ i / 2 ^ up l i s % 2 = 0 ∧ s / 2 ^ l / 2 ^ up l i s = i / 2 ^ up l i s + 1 ∧ fend l i (up l i s) ≤ s ∧ fbeg l i (up l i s) + 2 ^ (l + up l i s) = fend l i (up l i s) := by
  have hx : s / 2 ^ l < 2 ^ 64 := Nat.lt_of_le_of_lt (Nat.div_le_self _ _) hs
  obtain ⟨a, b, c⟩ := cut_spec 64 i (s / 2 ^ l) h hx
  unfold fend fbeg up
  have e : s / 2 ^ (l + cut i (s / 2 ^ l)) = i / 2 ^ cut i (s / 2 ^ l) + 1 := by rw [Nat.pow_add, ← Nat.div_div_eq_div_mul]; exact c
  generalize cut i (s / 2 ^ l) = d at *
  have hle : (i / 2 ^ d + 1) * 2 ^ (l + d) ≤ s := by rw [← e]; exact Nat.div_mul_le_self _ _
  refine ⟨?_, b, c, hle, by rw [Nat.add_mul, Nat.one_mul]⟩
  rcases Nat.lt_or_ge (l + d) 64 with h1 | h1
  · exact h1
  · have h2 : 2 ^ 64 ≤ 2 ^ (l + d) := Nat.pow_le_pow_right (by decide) h1
    have h3 : 1 * 2 ^ (l + d) ≤ (i / 2 ^ d + 1) * 2 ^ (l + d) := Nat.mul_le_mul_right _ (Nat.le_add_left _ _)
    omega
end Go.Proofs.YtpdmmmcelkinjaaFmt.Pl
