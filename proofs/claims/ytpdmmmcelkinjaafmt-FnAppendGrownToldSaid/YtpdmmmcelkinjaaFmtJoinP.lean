/- What appendImpl makes of the hashes of two ranges, one behind the other; what it tells as one leaf is put behind a range. -/
import Derived.Test.YtpdmmmcelkinjaaFmtMergeW
import Derived.Test.YtpdmmmcelkinjaaFmtGrowH
open Go
namespace Go.Proofs.YtpdmmmcelkinjaaFmt
namespace Pl
theorem join_law (h : HF) (f : Nat → List Nat) {b m e : Nat} (hb : b ≤ m) (hm : m < e) (he : e < 18446744073709551616) :
    ∃ s0 H2, ph h f m e = s0 :: H2 ∧ merged h (ph h f b m) H2 (m / 2 ^ lo m) s0 (hi b m e - 1 - lo m) = ph h f b e ∧ pop (hi b m e - 1 - lo m) (m / 2 ^ lo m) ≤ (ph h f b m).length ∧ hi b m e - 1 - lo m - pop (hi b m e - 1 - lo m) (m / 2 ^ lo m) ≤ H2.length ∧ hi b m e ≤ 64 ∧
      toldM h (ph h f b m) H2 (m / 2 ^ lo m) s0 (lo m) (hi b m e - 1 - lo m) = (List.range (hi b m e - 1 - lo m)).map fun j => (lo m + j + 1, m / 2 ^ (lo m + j + 1), gv h f (lo m + j + 1, m / 2 ^ (lo m + j + 1))) := by
  obtain ⟨l, t, hj⟩ : ∃ l t, jz 64 b m e = (l, t) := ⟨_, _, rfl⟩
  obtain ⟨s0, H2, a1, a2, a3, a4, a5, a6⟩ := merge_law h f hb hm he hj
  obtain ⟨p1, p2, p3⟩ := path_any hb hm he hj
  rw [p1]
  rcases Nat.eq_zero_or_pos t with h0 | h0
  · subst h0
    refine ⟨s0, H2, a1, ?_, Nat.zero_le _, by simp, p3, rfl⟩
    rw [← a3]
    rfl
  · have hl := p2 h0
    rw [hl]
    refine ⟨s0, H2, a1, a3, a4, a5, p3, ?_⟩
    unfold toldM
    apply List.map_congr_left
    intro j hj
    have hjt : j < t := List.mem_range.1 hj
    rw [a6 (j + 1) (by omega), ← div_pow_add, Nat.add_assoc]
/-- How many nodes are merged as the leaf m is put behind the range from b on. -/
def mup (b m : Nat) : Nat := hi b m (m + 1) - 1 - lo m
theorem mup_lo {b m : Nat} (hb : b ≤ m) (he : m + 1 < 18446744073709551616) (h : 0 < mup b m) : lo m = 0 := by
  obtain ⟨l, t, hj⟩ : ∃ l t, jz 64 b m (m + 1) = (l, t) := ⟨_, _, rfl⟩
  obtain ⟨p1, p2, p3⟩ := path_any hb (show m < m + 1 by omega) he hj
  have hl : l = 0 := by have := jz_one b m; rw [hj] at this; exact this
  rw [p2 (by unfold mup at h; omega), hl]
/-- The nodes that are told as a leaf is put behind a range, each with its hash. -/
def grownS (h : HF) (f : Nat → List Nat) (b m : Nat) : List (Nat × Nat × List Nat) := (List.range (mup b m + 1)).map fun j => (j, m / 2 ^ j, gv h f (j, m / 2 ^ j))
/-- .. as n leaves are. -/
def grownL (h : HF) (f : Nat → List Nat) (b : Nat) : Nat → List (Nat × Nat × List Nat)
  | 0 => []
  | n + 1 => grownL h f b n ++ grownS h f b (b + n)
theorem leaf_law (h : HF) (f : Nat → List Nat) {b m : Nat} (hb : b ≤ m) (he : m + 1 < 18446744073709551616) :
    merged h (ph h f b m) [] (m / 2 ^ lo m) (f m) (hi b m (m + 1) - 1 - lo m) = ph h f b (m + 1) ∧ pop (hi b m (m + 1) - 1 - lo m) (m / 2 ^ lo m) ≤ (ph h f b m).length ∧ hi b m (m + 1) - 1 - lo m - pop (hi b m (m + 1) - 1 - lo m) (m / 2 ^ lo m) ≤ 0 ∧ hi b m (m + 1) ≤ 64 ∧
      [(0, m, f m)] ++ toldM h (ph h f b m) [] (m / 2 ^ lo m) (f m) (lo m) (hi b m (m + 1) - 1 - lo m) = grownS h f b m := by
  obtain ⟨s0, H2, a1, a2, a3, a4, a5, a6⟩ := join_law h f hb (show m < m + 1 by omega) he
  rw [ph_one h f he] at a1
  injection a1 with e1 e2
  subst e1 e2
  refine ⟨a2, a3, a4, a5, ?_⟩
  rw [a6]
  unfold grownS
  have hu : mup b m = hi b m (m + 1) - 1 - lo m := rfl
  rw [List.range_succ_eq_map, List.map_cons, Nat.pow_zero, Nat.div_one, List.map_map, ← hu]
  have h0 : gv h f (0, m) = f m := by have := seed_zero h f m; rwa [Nat.pow_zero, Nat.div_one] at this
  rw [h0]
  show _ :: _ = _ :: _
  congr 1
  rcases Nat.eq_zero_or_pos (mup b m) with hz | hp
  · rw [hz]; rfl
  · rw [mup_lo hb he hp]
    apply List.map_congr_left
    intro j _
    simp
theorem grownS_length (h : HF) (f : Nat → List Nat) {b m : Nat} (hb : b ≤ m) (he : m + 1 < 18446744073709551616) : (grownS h f b m).length ≤ 65 := by
  obtain ⟨l, t, hj⟩ : ∃ l t, jz 64 b m (m + 1) = (l, t) := ⟨_, _, rfl⟩
  obtain ⟨p1, p2, p3⟩ := path_any hb (show m < m + 1 by omega) he hj
  simp [grownS, mup]; omega
theorem grownL_length (h : HF) (f : Nat → List Nat) (b : Nat) : ∀ n, b + n + 1 < 18446744073709551616 → (grownL h f b n).length ≤ 65 * n
  | 0, _ => Nat.le_refl _
  | n + 1, he => by
    have := grownL_length h f b n (by omega)
    have := grownS_length h f (b := b) (m := b + n) (by omega) (by omega)
    rw [grownL, List.length_append]; omega
end Pl
end Go.Proofs.YtpdmmmcelkinjaaFmt
