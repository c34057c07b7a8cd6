/- The hashes of the pieces of a range, as one more leaf is put behind it. -/
import Derived.Test.YtpdmmmcelkinjaaFmtGrowP
import Derived.Test.YtpdmmmcelkinjaaFmtMth
open Go
namespace Go.Proofs.YtpdmmmcelkinjaaFmt.Pl
/-- The hash of a node. -/
def gv (h : HF) (f : Nat → List Nat) (p : Nat × Nat) : List Nat := mr h f (p.2 * 2 ^ p.1) (2 ^ p.1)
/-- The hashes of the pieces. -/
def ph (h : HF) (f : Nat → List Nat) (b e : Nat) : List (List Nat) := (pieces b e).map (gv h f)
theorem ph_length (h : HF) (f : Nat → List Nat) (b e : Nat) : (ph h f b e).length = (pieces b e).length := by simp [ph]
theorem seed_zero (h : HF) (f : Nat → List Nat) (e : Nat) : gv h f (0, e / 2 ^ 0) = f e := by
  unfold gv
  rw [Nat.pow_zero, Nat.div_one, Nat.mul_one, mr_one]
theorem seed_step (h : HF) (f : Nat → List Nat) {e j : Nat} (ho : e / 2 ^ j % 2 = 1) : gv h f (j + 1, e / 2 ^ (j + 1)) = h.hc (gv h f (j, e / 2 ^ j - 1)) (gv h f (j, e / 2 ^ j)) := by
  have hq : e / 2 ^ (j + 1) = e / 2 ^ j / 2 := by rw [Nat.div_div_eq_div_mul, ← Nat.pow_succ]
  rw [hq]
  generalize e / 2 ^ j = q at *
  have hp := Nat.two_pow_pos j
  obtain ⟨r, hr⟩ : ∃ r, q = 2 * r + 1 := ⟨q / 2, by omega⟩
  subst hr
  rw [show (2 * r + 1) / 2 = r by omega, Nat.add_sub_cancel]
  unfold gv
  simp only []
  rw [mr_two h f _ _ (by rw [Nat.pow_succ]; omega), split_pow]
  have e1 : r * 2 ^ (j + 1) = 2 * r * 2 ^ j := by rw [Nat.pow_succ, Nat.mul_comm (2 ^ j) 2, ← Nat.mul_assoc, Nat.mul_comm r 2]
  have e2 : (2 * r + 1) * 2 ^ j = 2 * r * 2 ^ j + 2 ^ j := by rw [Nat.add_mul, Nat.one_mul]
  have e3 : 2 ^ (j + 1) - 2 ^ j = 2 ^ j := by rw [Nat.pow_succ]; omega
  rw [e1, e2, e3]
/-- How many pieces are merged. -/
def mg (b e : Nat) : Nat := tmg 64 b e
/-- One more leaf. -/
theorem ph_grow (h : HF) (f : Nat → List Nat) {b e : Nat} (hb : b ≤ e) (he : e + 1 < 18446744073709551616) :
    ph h f b (e + 1) = (ph h f b e).take ((ph h f b e).length - mg b e) ++ [gv h f (mg b e, e / 2 ^ mg b e)] ∧ mg b e ≤ (ph h f b e).length ∧
      ∀ j, j < mg b e → (ph h f b e)[(ph h f b e).length - 1 - j]? = some (gv h f (j, e / 2 ^ j - 1)) ∧ e / 2 ^ j % 2 = 1 := by
  obtain ⟨a1, a2, a3⟩ := pcs_grow 64 0 b e hb (by omega)
  rw [ph_length]
  unfold ph pieces mg
  refine ⟨?_, a2, fun j hj => ?_⟩
  · rw [a1, List.map_append, List.map_take, Nat.zero_add]; rfl
  · obtain ⟨b1, b2⟩ := a3 j hj
    rw [Nat.zero_add] at b1
    exact ⟨by rw [List.getElem?_map, b1]; rfl, b2⟩
theorem pieces_grow {b e : Nat} (hb : b ≤ e) (he : e + 1 < 18446744073709551616) : pieces b (e + 1) = (pieces b e).take ((pieces b e).length - mg b e) ++ [(mg b e, e / 2 ^ mg b e)] := by
  obtain ⟨a1, _, _⟩ := pcs_grow 64 0 b e hb (by omega)
  unfold pieces mg
  rw [a1, Nat.zero_add]
/-- The nodes that are told as a leaf is put behind a range: the leaf, and each node that is merged. -/
def grownAt (b e : Nat) : List (Nat × Nat) := (List.range (mg b e + 1)).map fun j => (j, e / 2 ^ j)
end Go.Proofs.YtpdmmmcelkinjaaFmt.Pl
/- The hashes of two ranges, one behind the other, as they are merged: in plain numbers. -/
open Go
namespace Go.Proofs.YtpdmmmcelkinjaaFmt.Pl
theorem seed_step0 (h : HF) (f : Nat → List Nat) {e j : Nat} (ho : e / 2 ^ j % 2 = 0) : gv h f (j + 1, e / 2 ^ (j + 1)) = h.hc (gv h f (j, e / 2 ^ j)) (gv h f (j, e / 2 ^ j + 1)) := by
  have hq : e / 2 ^ (j + 1) = e / 2 ^ j / 2 := by rw [Nat.div_div_eq_div_mul, ← Nat.pow_succ]
  rw [hq]
  generalize e / 2 ^ j = q at *
  have hp := Nat.two_pow_pos j
  obtain ⟨r, hr⟩ : ∃ r, q = 2 * r := ⟨q / 2, by omega⟩
  subst hr
  rw [show 2 * r / 2 = r by omega]
  unfold gv
  simp only []
  rw [mr_two h f _ _ (by rw [Nat.pow_succ]; omega), split_pow]
  have e1 : r * 2 ^ (j + 1) = 2 * r * 2 ^ j := by rw [Nat.pow_succ, Nat.mul_comm (2 ^ j) 2, ← Nat.mul_assoc, Nat.mul_comm r 2]
  have e2 : (2 * r + 1) * 2 ^ j = 2 * r * 2 ^ j + 2 ^ j := by rw [Nat.add_mul, Nat.one_mul]
  have e3 : 2 ^ (j + 1) - 2 ^ j = 2 ^ j := by rw [Nat.pow_succ]; omega
  rw [e1, e2, e3]
/-- The seed after j merges: x tells from which side the neighbour comes. -/
def sdv (h : HF) (H1 H2 : List (List Nat)) (x : Nat) (s0 : List Nat) : Nat → List Nat
  | 0 => s0
  | j + 1 => if x / 2 ^ j % 2 = 0 then h.hc (sdv h H1 H2 x s0 j) (H2.getD (j - pop j x) []) else h.hc (H1.getD (H1.length - 1 - pop j x) []) (sdv h H1 H2 x s0 j)
/-- The hashes after t merges. -/
def merged (h : HF) (H1 H2 : List (List Nat)) (x : Nat) (s0 : List Nat) (t : Nat) : List (List Nat) := H1.take (H1.length - pop t x) ++ sdv h H1 H2 x s0 t :: H2.drop (t - pop t x)
/-- The nodes that are told. -/
def toldM (h : HF) (H1 H2 : List (List Nat)) (x : Nat) (s0 : List Nat) (lo t : Nat) : List (Nat × Nat × List Nat) := (List.range t).map fun j => (lo + j + 1, x / 2 ^ (j + 1), sdv h H1 H2 x s0 (j + 1))
theorem toldM_succ (h : HF) (H1 H2 : List (List Nat)) (x : Nat) (s0 : List Nat) (lo t : Nat) : toldM h H1 H2 x s0 lo (t + 1) = toldM h H1 H2 x s0 lo t ++ [(lo + t + 1, x / 2 ^ (t + 1), sdv h H1 H2 x s0 (t + 1))] := by
  unfold toldM
  rw [List.range_succ, List.map_append]
  rfl
theorem div_pow_add (m a c : Nat) : m / 2 ^ (a + c) = m / 2 ^ a / 2 ^ c := by rw [Nat.div_div_eq_div_mul, Nat.pow_add]
theorem merge_law (h : HF) (f : Nat → List Nat) {b m e l t : Nat} (hb : b ≤ m) (hm : m < e) (he : e < 18446744073709551616) (hj : jz 64 b m e = (l, t)) :
    ∃ s0 H2, ph h f m e = s0 :: H2 ∧ s0 = gv h f (l, m / 2 ^ l) ∧ merged h (ph h f b m) H2 (m / 2 ^ l) s0 t = ph h f b e ∧ pop t (m / 2 ^ l) ≤ (ph h f b m).length ∧ t - pop t (m / 2 ^ l) ≤ H2.length ∧
      ∀ j, j ≤ t → sdv h (ph h f b m) H2 (m / 2 ^ l) s0 j = gv h f (l + j, m / 2 ^ (l + j)) := by
  obtain ⟨R, a0, a1, a2, a3, a4⟩ := jz_pcs 64 0 b m e hb hm (by omega) l t hj
  have hs : ∀ j, j ≤ t → sdv h (ph h f b m) (R.map (gv h f)) (m / 2 ^ l) (gv h f (l, m / 2 ^ l)) j = gv h f (l + j, m / 2 ^ (l + j)) := by
    intro j
    induction j with
    | zero => intro _; rfl
    | succ j ih =>
      intro hjt
      obtain ⟨b1, b2⟩ := a4 j (by omega)
      rw [sdv, ih (by omega), ← div_pow_add]
      rcases Nat.mod_two_eq_zero_or_one (m / 2 ^ (l + j)) with h0 | h1
      · rw [if_pos h0, ← Nat.add_assoc, seed_step0 h f h0]
        have c2 := b2 h0
        rw [List.getD_eq_getElem?_getD, List.getElem?_map, c2, Nat.zero_add]
        rfl
      · rw [if_neg (by omega), ← Nat.add_assoc, seed_step h f h1]
        obtain ⟨_, c2⟩ := b1 h1
        unfold ph pieces
        rw [List.getD_eq_getElem?_getD, List.getElem?_map, List.length_map, c2, Nat.zero_add]
        rfl
  refine ⟨gv h f (l, m / 2 ^ l), R.map (gv h f), ?_, rfl, ?_, by rw [ph_length]; exact a2, by simpa using a3, hs⟩
  · unfold ph pieces
    rw [a0, Nat.zero_add]; rfl
  · unfold merged
    rw [hs t (Nat.le_refl _)]
    unfold ph pieces
    rw [a1, List.map_append, List.map_take, List.length_map, List.map_cons, List.map_drop, Nat.zero_add]
theorem jz_one (b m : Nat) : (jz 64 b m (m + 1)).1 = 0 := by
  rw [jz]
  split
  · rfl
  · rw [if_neg (by omega)]
theorem ph_one (h : HF) (f : Nat → List Nat) {m : Nat} (he : m + 1 < 18446744073709551616) : ph h f m (m + 1) = [f m] := by
  unfold ph pieces
  rw [pcs_one 64 0 m (by omega)]
  show [gv h f (0, m)] = _
  have := seed_zero h f m
  rw [Nat.pow_zero, Nat.div_one] at this
  rw [this]
end Go.Proofs.YtpdmmmcelkinjaaFmt.Pl
