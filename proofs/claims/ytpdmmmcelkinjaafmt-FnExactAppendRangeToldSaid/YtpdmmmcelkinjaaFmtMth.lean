/- Trees and proofs by their definition, in plain lists: no program in sight. -/
import Derived.Test.YtpdmmmcelkinjaaFmtPlain
open Go
namespace Go.Proofs.YtpdmmmcelkinjaaFmt.Pl

/-! ### The greatest power of two below a number -/
def slog (n : Nat) : Nat := bitLen (n - 1) - 1
def split (n : Nat) : Nat := 2 ^ slog n
theorem slog_eq {n k : Nat} (h1 : 2 ^ k < n) (h2 : n ≤ 2 ^ (k + 1)) : slog n = k := by
  have a := blen_le (n := n - 1) (k := k + 1) (by omega)
  have b := blen_gt (n := n - 1) (k := k) (by omega)
  unfold slog; omega
theorem split_spec {n : Nat} (h : 2 ≤ n) : split n < n ∧ n ≤ 2 * split n := by
  obtain ⟨_, h2, h3⟩ := top_bit (n - 1) (by omega)
  have hp := blen_pos (n := n - 1) (by omega)
  have e : 2 ^ bitLen (n - 1) = 2 * 2 ^ (bitLen (n - 1) - 1) := by
    rw [show bitLen (n - 1) = (bitLen (n - 1) - 1) + 1 by omega, Nat.pow_succ, Nat.mul_comm]; simp
  unfold split slog
  omega
theorem split_pos (n : Nat) : 0 < split n := Nat.two_pow_pos _
theorem split_eq {n k : Nat} (h1 : 2 ^ k < n) (h2 : n ≤ 2 ^ (k + 1)) : split n = 2 ^ k := by unfold split; rw [slog_eq h1 h2]
theorem split_pow (k : Nat) : split (2 ^ (k + 1)) = 2 ^ k := split_eq (by have := Nat.two_pow_pos k; rw [Nat.pow_succ]; omega) (Nat.le_refl _)

/-! ### The hash of leaves from a on, n of them -/
def mr (h : HF) (f : Nat → List Nat) (a n : Nat) : List Nat :=
  if _hn : n ≤ 1 then f a else h.hc (mr h f a (split n)) (mr h f (a + split n) (n - split n))
termination_by n
decreasing_by
  · exact (split_spec (by omega)).1
  · have := split_pos n; omega
theorem mr_one (h : HF) (f : Nat → List Nat) (a : Nat) : mr h f a 1 = f a := by rw [mr]; simp
theorem mr_two (h : HF) (f : Nat → List Nat) (a n : Nat) (hn : 2 ≤ n) : mr h f a n = h.hc (mr h f a (split n)) (mr h f (a + split n) (n - split n)) := by
  rw [mr, dif_neg (by omega)]
theorem mr_pow (h : HF) (f : Nat → List Nat) (a k : Nat) : mr h f a (2 ^ (k + 1)) = h.hc (mr h f a (2 ^ k)) (mr h f (a + 2 ^ k) (2 ^ k)) := by
  have := Nat.two_pow_pos k
  rw [mr_two _ _ _ _ (by rw [Nat.pow_succ]; omega), split_pow, show 2 ^ (k + 1) - 2 ^ k = 2 ^ k by rw [Nat.pow_succ]; omega]
theorem mr_congr (h : HF) (f g : Nat → List Nat) (a n : Nat) (h1 : 1 ≤ n) (he : ∀ i, a ≤ i → i < a + n → f i = g i) : mr h f a n = mr h g a n := by
  induction n using Nat.strongRecOn generalizing a with
  | ind n ih =>
    by_cases hn : 2 ≤ n
    · obtain ⟨s1, s2⟩ := split_spec hn
      have s3 := split_pos n
      rw [mr_two _ _ _ _ hn, mr_two _ _ _ _ hn, ih _ s1 _ s3 (fun i h1 h2 => he i h1 (by omega)), ih _ (by omega) _ (by omega) (fun i h1 h2 => he i (by omega) (by omega))]
    · obtain rfl : n = 1 := by omega
      rw [mr_one, mr_one]
      exact he a (Nat.le_refl _) (by omega)
theorem mr_shift (h : HF) (f : Nat → List Nat) (c a n : Nat) (h1 : 1 ≤ n) : mr h (fun i => f (i + c)) a n = mr h f (a + c) n := by
  induction n using Nat.strongRecOn generalizing a with
  | ind n ih =>
    by_cases hn : 2 ≤ n
    · obtain ⟨s1, s2⟩ := split_spec hn
      have s3 := split_pos n
      rw [mr_two _ _ _ _ hn, mr_two _ _ _ _ hn, ih _ s1 _ s3, ih _ (by omega) _ (by omega), show a + split n + c = a + c + split n by omega]
    · obtain rfl : n = 1 := by omega
      rw [mr_one, mr_one]
theorem mr_bytes (h : HF) (f : Nat → List Nat) (hf : ∀ i, Bytes (f i)) (a n : Nat) : Bytes (mr h f a n) := by
  by_cases hn : 2 ≤ n
  · rw [mr_two _ _ _ _ hn]; exact hc_bytes _ _ _
  · rw [mr, dif_pos (by omega)]; exact hf a
/-- The hash of a list of leaves. -/
def atL (L : List (List Nat)) (i : Nat) : List Nat := L.getD i []
def mth (h : HF) (L : List (List Nat)) : List Nat := mr h (atL L) 0 L.length
theorem mth_part (h : HF) (L : List (List Nat)) (a n : Nat) (h1 : 1 ≤ n) (h2 : a + n ≤ L.length) : mth h ((L.drop a).take n) = mr h (atL L) a n := by
  unfold mth
  have hl : ((L.drop a).take n).length = n := by simp; omega
  rw [hl, mr_congr h _ (fun i => atL L (i + a)) 0 n h1 (fun i _ hi => by
    unfold atL
    rw [List.getD_eq_getElem?_getD, List.getD_eq_getElem?_getD, List.getElem?_take_of_lt (by omega), List.getElem?_drop, Nat.add_comm]), mr_shift _ _ _ _ _ h1, Nat.zero_add]
theorem mth_take (h : HF) (L : List (List Nat)) (n : Nat) (h1 : 1 ≤ n) (h2 : n ≤ L.length) : mth h (L.take n) = mr h (atL L) 0 n := by
  have := mth_part h L 0 n h1 (by omega)
  simpa using this
theorem mth_drop (h : HF) (L : List (List Nat)) (a : Nat) (h2 : a < L.length) : mth h (L.drop a) = mr h (atL L) a (L.length - a) := by
  have := mth_part h L a (L.length - a) (by omega) (by omega)
  rwa [List.take_of_length_le (by simp)] at this
theorem mth_split (h : HF) (L : List (List Nat)) (h2 : 2 ≤ L.length) : mth h L = h.hc (mth h (L.take (split L.length))) (mth h (L.drop (split L.length))) := by
  obtain ⟨s1, s2⟩ := split_spec h2
  have s3 := split_pos L.length
  rw [mth_take h L _ s3 (by omega), mth_drop h L _ s1]
  unfold mth
  rw [mr_two _ _ _ _ h2, Nat.zero_add]
theorem mth_one (h : HF) (x : List Nat) : mth h [x] = x := by
  unfold mth
  exact mr_one _ _ _

/-! ### Which way the path of a leaf goes, from the leaf on: true where the other tree stands at its left -/
def dirs (idx n : Nat) : List Bool :=
  if _hn : n ≤ 1 then [] else if idx < split n then dirs idx (split n) ++ [false] else dirs (idx - split n) (n - split n) ++ [true]
termination_by n
decreasing_by
  · exact (split_spec (by omega)).1
  · have := split_pos n; omega
theorem dirs_one (idx : Nat) : dirs idx 1 = [] := by rw [dirs]; simp
theorem dirs_l {idx n : Nat} (hn : 2 ≤ n) (h : idx < split n) : dirs idx n = dirs idx (split n) ++ [false] := by rw [dirs, dif_neg (by omega), if_pos h]
theorem dirs_r {idx n : Nat} (hn : 2 ≤ n) (h : ¬ idx < split n) : dirs idx n = dirs (idx - split n) (n - split n) ++ [true] := by rw [dirs, dif_neg (by omega), if_neg h]
/-- The trees beside the path of a leaf: where each begins, and of how many leaves it is. -/
def sides (a idx n : Nat) : List (Nat × Nat) :=
  if _hn : n ≤ 1 then [] else if idx < split n then sides a idx (split n) ++ [(a + split n, n - split n)] else sides (a + split n) (idx - split n) (n - split n) ++ [(a, split n)]
termination_by n
decreasing_by
  · exact (split_spec (by omega)).1
  · have := split_pos n; omega
theorem sides_one (a idx : Nat) : sides a idx 1 = [] := by rw [sides]; simp
theorem sides_l {a idx n : Nat} (hn : 2 ≤ n) (h : idx < split n) : sides a idx n = sides a idx (split n) ++ [(a + split n, n - split n)] := by rw [sides, dif_neg (by omega), if_pos h]
theorem sides_r {a idx n : Nat} (hn : 2 ≤ n) (h : ¬ idx < split n) : sides a idx n = sides (a + split n) (idx - split n) (n - split n) ++ [(a, split n)] := by rw [sides, dif_neg (by omega), if_neg h]

/-- A chain of hashes upwards. -/
def step (h : HF) (s : List Nat) (d : Bool × List Nat) : List Nat := if d.1 then h.hc d.2 s else h.hc s d.2
def chain (h : HF) (s : List Nat) (l : List (Bool × List Nat)) : List Nat := l.foldl (step h) s
theorem chain_snoc (h : HF) (s : List Nat) (l : List (Bool × List Nat)) (d : Bool × List Nat) : chain h s (l ++ [d]) = step h (chain h s l) d := by simp [chain]
theorem chain_append (h : HF) (s : List Nat) (l m : List (Bool × List Nat)) : chain h s (l ++ m) = chain h (chain h s l) m := by simp [chain]
theorem zip_snoc {α β : Type} {l : List α} {m : List β} (he : l.length = m.length) (a : α) (b : β) : (l ++ [a]).zip (m ++ [b]) = l.zip m ++ [(a, b)] := by
  rw [List.zip_append he]; rfl
theorem sides_length (idx n : Nat) : ∀ a, (sides a idx n).length = (dirs idx n).length := by
  induction n using Nat.strongRecOn generalizing idx with
  | ind n ih =>
    intro a
    by_cases hn : 2 ≤ n
    · have s := split_spec hn
      have s3 := split_pos n
      by_cases hi : idx < split n
      · rw [sides_l hn hi, dirs_l hn hi, List.length_append, List.length_append, ih _ s.1]; rfl
      · rw [sides_r hn hi, dirs_r hn hi, List.length_append, List.length_append, ih _ (by omega)]; rfl
    · rw [sides, dif_pos (by omega), dirs, dif_pos (by omega)]; rfl
/-- The proof of a leaf leads to the root. -/
theorem chain_sides (h : HF) (f : Nat → List Nat) (idx n : Nat) : ∀ a, idx < n → chain h (f (a + idx)) ((dirs idx n).zip ((sides a idx n).map fun p => mr h f p.1 p.2)) = mr h f a n := by
  induction n using Nat.strongRecOn generalizing idx with
  | ind n ih =>
    intro a hlt
    by_cases hn : 2 ≤ n
    · have s := split_spec hn
      have s3 := split_pos n
      by_cases hi : idx < split n
      · rw [sides_l hn hi, dirs_l hn hi, List.map_append, List.map_singleton, zip_snoc (by rw [List.length_map, sides_length]), chain_snoc, ih _ s.1 _ _ hi, mr_two _ _ _ _ hn]
        rfl
      · have e : a + idx = a + split n + (idx - split n) := by omega
        rw [sides_r hn hi, dirs_r hn hi, List.map_append, List.map_singleton, zip_snoc (by rw [List.length_map, sides_length]), chain_snoc, e, ih _ (by omega) _ _ (by omega), mr_two _ _ _ _ hn]
        rfl
    · obtain rfl : n = 1 := by omega
      obtain rfl : idx = 0 := by omega
      rw [dirs_one, mr_one]
      rfl

/-! ### The root that a proof tells; the proof from its end on -/
def rootRev (h : HF) (leaf : List Nat) : List (List Nat) → Nat → Nat → List Nat × Bool
  | [], _, n => if n = 1 then (leaf, true) else ([], false)
  | x :: ps, idx, n => if n = 1 then (leaf, false) else
    if idx < split n then (h.hc (rootRev h leaf ps idx (split n)).1 x, (rootRev h leaf ps idx (split n)).2)
    else (h.hc x (rootRev h leaf ps (idx - split n) (n - split n)).1, (rootRev h leaf ps (idx - split n) (n - split n)).2)
theorem rootRev_spec (h : HF) (leaf : List Nat) : ∀ (ps : List (List Nat)) (idx n : Nat), idx < n →
    (rootRev h leaf ps idx n).2 = decide (ps.length = (dirs idx n).length) ∧ (ps.length = (dirs idx n).length → (rootRev h leaf ps idx n).1 = chain h leaf ((dirs idx n).zip ps.reverse))
  | [], idx, n, hlt => by
    by_cases h1 : n = 1
    · subst h1
      rw [rootRev, if_pos rfl, dirs_one]
      exact ⟨rfl, fun _ => rfl⟩
    · rw [rootRev, if_neg h1]
      have hd : (dirs idx n).length ≠ 0 := by
        by_cases hi : idx < split n
        · rw [dirs_l (by omega) hi]; simp
        · rw [dirs_r (by omega) hi]; simp
      exact ⟨by symm; rw [decide_eq_false_iff_not]; exact fun e => hd e.symm, fun e => absurd e.symm hd⟩
  | x :: ps, idx, n, hlt => by
    by_cases h1 : n = 1
    · subst h1
      rw [rootRev, if_pos rfl, dirs_one]
      exact ⟨by simp, fun e => by simp at e⟩
    · have hn : 2 ≤ n := by omega
      have s := split_spec hn
      have s3 := split_pos n
      rw [rootRev, if_neg h1]
      by_cases hi : idx < split n
      · obtain ⟨i1, i2⟩ := rootRev_spec h leaf ps idx (split n) hi
        rw [if_pos hi, dirs_l hn hi]
        refine ⟨by rw [i1]; simp, fun e => ?_⟩
        have e' : ps.length = (dirs idx (split n)).length := by simpa using e
        rw [List.reverse_cons, zip_snoc (by simpa using e'.symm), chain_snoc, i2 e']
        rfl
      · obtain ⟨i1, i2⟩ := rootRev_spec h leaf ps (idx - split n) (n - split n) (by omega)
        rw [if_neg hi, dirs_r hn hi]
        refine ⟨by rw [i1]; simp, fun e => ?_⟩
        have e' : ps.length = (dirs (idx - split n) (n - split n)).length := by simpa using e
        rw [List.reverse_cons, zip_snoc (by simpa using e'.symm), chain_snoc, i2 e']
        rfl
theorem rootRev_bytes (h : HF) (leaf : List Nat) (hl : Bytes leaf) : ∀ (ps : List (List Nat)) (idx n : Nat), Bytes (rootRev h leaf ps idx n).1
  | [], idx, n => by
    rw [rootRev]
    split
    · exact hl
    · intro x hx; cases hx
  | x :: ps, idx, n => by
    rw [rootRev]
    split
    · exact hl
    · split
      · exact hc_bytes _ _ _
      · exact hc_bytes _ _ _
/-! ### The lowest bits of a number, as directions -/
def lowbits : Nat → Nat → List Bool
  | 0, _ => []
  | k + 1, i => (i % 2 == 1) :: lowbits k (i / 2)
theorem lowbits_length : ∀ k i : Nat, (lowbits k i).length = k
  | 0, _ => rfl
  | k + 1, i => by rw [lowbits, List.length_cons, lowbits_length k]
theorem lowbits_snoc : ∀ k i : Nat, lowbits (k + 1) i = lowbits k i ++ [i / 2 ^ k % 2 == 1]
  | 0, i => by simp [lowbits]
  | k + 1, i => by rw [lowbits, lowbits_snoc k, lowbits, List.cons_append, Nat.div_div_eq_div_mul, show 2 * 2 ^ k = 2 ^ (k + 1) by rw [Nat.pow_succ, Nat.mul_comm]]
theorem lowbits_add : ∀ a b i : Nat, lowbits (a + b) i = lowbits a i ++ lowbits b (i / 2 ^ a)
  | 0, b, i => by simp [lowbits]
  | a + 1, b, i => by
    rw [show a + 1 + b = (a + b) + 1 by omega, lowbits, lowbits_add a b, lowbits, List.cons_append, Nat.div_div_eq_div_mul, show 2 * 2 ^ a = 2 ^ (a + 1) by rw [Nat.pow_succ, Nat.mul_comm]]
theorem take_snocL {α : Type} (L : List α) (k : Nat) (h : k < L.length) : L.take (k + 1) = L.take k ++ [L[k]] := by rw [List.take_add_one, List.getElem?_eq_getElem h]; rfl
theorem chain_border {h : HF} {s : List Nat} {L : List (List Nat)} (k : Nat) (hk : k < L.length) : chain h s ((List.replicate (k + 1) true).zip (L.take (k + 1))) = h.hc L[k] (chain h s ((List.replicate k true).zip (L.take k))) := by
  rw [take_snocL L k hk, List.replicate_succ', zip_snoc (by simp; omega), chain_snoc]
  rfl
theorem chain_inner {h : HF} {s : List Nat} {L : List (List Nat)} (i k : Nat) (hk : k < L.length) : chain h s ((lowbits (k + 1) i).zip (L.take (k + 1))) =
    if i / 2 ^ k % 2 = 1 then h.hc L[k] (chain h s ((lowbits k i).zip (L.take k))) else h.hc (chain h s ((lowbits k i).zip (L.take k))) L[k] := by
  rw [take_snocL L k hk, lowbits_snoc, zip_snoc (by rw [lowbits_length]; simp; omega), chain_snoc]
  unfold step
  by_cases hb : i / 2 ^ k % 2 = 1
  · rw [if_pos hb, if_pos (by simp [hb])]
  · rw [if_neg hb, if_neg (by simp [hb])]
end Go.Proofs.YtpdmmmcelkinjaaFmt.Pl
/- The nodes of a proof's plan, in plain lists. -/
open Go
namespace Go.Proofs.YtpdmmmcelkinjaaFmt.Pl
/-- The siblings of a path: n of them, from level l on. -/
def sibs : Nat → Nat → Nat → List (Nat × Nat)
  | _, _, 0 => []
  | l, i, n + 1 => (l, i ^^^ 1) :: sibs (l + 1) (i / 2) n
theorem sibs_length : ∀ (n l i : Nat), (sibs l i n).length = n
  | 0, _, _ => rfl
  | n + 1, l, i => by rw [sibs, List.length_cons, sibs_length n]
theorem sibs_snoc : ∀ (n l i : Nat), sibs l i (n + 1) = sibs l i n ++ [(l + n, i / 2 ^ n ^^^ 1)]
  | 0, l, i => by simp [sibs]
  | n + 1, l, i => by
    rw [sibs, sibs_snoc n (l + 1) (i / 2), sibs, List.cons_append, Nat.div_div_eq_div_mul, show 2 * 2 ^ n = 2 ^ (n + 1) by rw [Nat.pow_succ, Nat.mul_comm], show l + 1 + n = l + (n + 1) by omega]
def fbeg (l i d : Nat) : Nat := i / 2 ^ d * 2 ^ (l + d)
def fend (l i d : Nat) : Nat := (i / 2 ^ d + 1) * 2 ^ (l + d)
def up (l i s : Nat) : Nat := cut i (s / 2 ^ l)
def planL (l i s : Nat) : List (Nat × Nat) :=
  (l, i) :: sibs l i (up l i s) ++ (pieces (fend l i (up l i s)) s).reverse ++ (pieces 0 (fbeg l i (up l i s))).reverse
/-- Where in the plan the nodes stand of which the ephemeral node is made. -/
def planB (l i s : Nat) : Nat := if (pieces (fend l i (up l i s)) s).length = 0 then 0 else up l i s + 1
def planE (l i s : Nat) : Nat := if (pieces (fend l i (up l i s)) s).length = 0 then 0 else up l i s + 1 + (pieces (fend l i (up l i s)) s).length
/-- The index of the ephemeral node. -/
def ephI (l i s : Nat) : Nat := i / 2 ^ up l i s ^^^ 1
/-- Where the path of i parts from that of x, i goes left and x goes right. -/
theorem cut_spec : ∀ (f i x : Nat), i < x → x < 2 ^ f → cut i x < f ∧ i / 2 ^ cut i x % 2 = 0 ∧ x / 2 ^ cut i x = i / 2 ^ cut i x + 1 := by
  intro f
  induction f with
  | zero => intro i x h hx; simp at hx; omega
  | succ f ih =>
    intro i x h hx
    rw [Nat.pow_succ] at hx
    rcases Nat.lt_or_ge (i / 2) (x / 2) with h2 | h2
    · obtain ⟨a, b, c⟩ := ih (i / 2) (x / 2) h2 (by omega)
      rw [cut_step h2]
      have e : ∀ y : Nat, y / 2 ^ (cut (i / 2) (x / 2) + 1) = y / 2 / 2 ^ cut (i / 2) (x / 2) := fun y => by rw [Nat.div_div_eq_div_mul, Nat.pow_succ, Nat.mul_comm]
      rw [e, e]
      exact ⟨by omega, b, c⟩
    · rw [cut_next h (by omega)]
      simp
      omega
theorem up_spec {l i s : Nat} (h : i < s / 2 ^ l) (hs : s < 18446744073709551616) :
    l + up l i s < 64 ∧ i / 2 ^ up l i s % 2 = 0 ∧ s / 2 ^ l / 2 ^ up l i s = i / 2 ^ up l i s + 1 ∧ fend l i (up l i s) ≤ s ∧ fbeg l i (up l i s) + 2 ^ (l + up l i s) = fend l i (up l i s) := by
  have hx : s / 2 ^ l < 2 ^ 64 := Nat.lt_of_le_of_lt (Nat.div_le_self _ _) hs
  obtain ⟨a, b, c⟩ := cut_spec 64 i (s / 2 ^ l) h hx
  unfold fend fbeg up
  have e : s / 2 ^ (l + cut i (s / 2 ^ l)) = i / 2 ^ cut i (s / 2 ^ l) + 1 := by rw [Nat.pow_add, ← Nat.div_div_eq_div_mul]; exact c
  generalize cut i (s / 2 ^ l) = d at *
  have hle : (i / 2 ^ d + 1) * 2 ^ (l + d) ≤ s := by rw [← e]; exact Nat.div_mul_le_self _ _
  refine ⟨?_, b, c, hle, by rw [Nat.add_mul, Nat.one_mul]⟩
  rcases Nat.lt_or_ge (l + d) 64 with h1 | h1
  · exact h1
  · have h2 : 2 ^ 64 ≤ 2 ^ (l + d) := Nat.pow_le_pow_right (by decide) h1
    have h3 : 1 * 2 ^ (l + d) ≤ (i / 2 ^ d + 1) * 2 ^ (l + d) := Nat.mul_le_mul_right _ (Nat.le_add_left _ _)
    omega
end Go.Proofs.YtpdmmmcelkinjaaFmt.Pl
/- What the nodes of a plan cover, in plain numbers. -/
open Go
namespace Go.Proofs.YtpdmmmcelkinjaaFmt.Pl
theorem half_le (i n l : Nat) : i / 2 ^ n * 2 ^ (l + n) ≤ i * 2 ^ l := by
  have h : i / 2 ^ n * 2 ^ (l + n) = i / 2 ^ n * 2 ^ n * 2 ^ l := by rw [Nat.pow_add, Nat.mul_assoc, Nat.mul_comm (2 ^ n)]
  rw [h]
  exact Nat.mul_le_mul_right _ (Nat.div_mul_le_self _ _)
theorem half_lt (i n l : Nat) : (i + 1) * 2 ^ l ≤ (i / 2 ^ n + 1) * 2 ^ (l + n) := by
  have h : (i / 2 ^ n + 1) * 2 ^ (l + n) = (i / 2 ^ n + 1) * 2 ^ n * 2 ^ l := by rw [Nat.pow_add, Nat.mul_assoc, Nat.mul_comm (2 ^ n)]
  rw [h]
  apply Nat.mul_le_mul_right
  have := Nat.lt_div_mul_add (a := i) (b := 2 ^ n) (Nat.two_pow_pos n)
  rw [Nat.add_mul, Nat.one_mul]
  omega
/-- The sibling lies in the parent, beside the node. -/
theorem sib_in (i l : Nat) : i / 2 * 2 ^ (l + 1) ≤ (i ^^^ 1) * 2 ^ l ∧ ((i ^^^ 1) + 1) * 2 ^ l ≤ (i / 2 + 1) * 2 ^ (l + 1) ∧ (((i ^^^ 1) + 1) * 2 ^ l ≤ i * 2 ^ l ∨ (i + 1) * 2 ^ l ≤ (i ^^^ 1) * 2 ^ l) := by
  have e1 : ∀ x : Nat, x * 2 ^ (l + 1) = (x * 2) * 2 ^ l := fun x => by rw [Nat.pow_succ, Nat.mul_comm (2 ^ l) 2, Nat.mul_assoc]
  rw [e1, e1, xor1]
  split
  · exact ⟨Nat.mul_le_mul_right _ (by omega), Nat.mul_le_mul_right _ (by omega), .inl (Nat.mul_le_mul_right _ (by omega))⟩
  · exact ⟨Nat.mul_le_mul_right _ (by omega), Nat.mul_le_mul_right _ (by omega), .inr (Nat.mul_le_mul_right _ (by omega))⟩
/-- Where a node's leaves begin and end. -/
def nb (p : Nat × Nat) : Nat := p.2 * 2 ^ p.1
def ne (p : Nat × Nat) : Nat := (p.2 + 1) * 2 ^ p.1
theorem sibs_in : ∀ (n l i : Nat), ∀ p ∈ sibs l i n, i / 2 ^ n * 2 ^ (l + n) ≤ nb p ∧ ne p ≤ (i / 2 ^ n + 1) * 2 ^ (l + n) ∧ (ne p ≤ i * 2 ^ l ∨ (i + 1) * 2 ^ l ≤ nb p)
  | 0, _, _, p, hp => by cases hp
  | n + 1, l, i, p, hp => by
    have e : ∀ x : Nat, x / 2 ^ (n + 1) = x / 2 / 2 ^ n := fun x => by rw [Nat.div_div_eq_div_mul, Nat.pow_succ, Nat.mul_comm]
    rw [e, show l + (n + 1) = l + 1 + n by omega]
    rw [sibs, List.mem_cons] at hp
    have s := sib_in i l
    rcases hp with rfl | hp
    · have h1 := half_le (i / 2) n (l + 1)
      have h2 := half_lt (i / 2) n (l + 1)
      exact ⟨Nat.le_trans h1 s.1, Nat.le_trans s.2.1 h2, s.2.2⟩
    · obtain ⟨a, b, c⟩ := sibs_in n (l + 1) (i / 2) p hp
      have h1 := half_le i 1 l
      have h2 := half_lt i 1 l
      rw [Nat.pow_one] at h1 h2
      exact ⟨a, b, c.elim (fun h => .inl (Nat.le_trans h h1)) fun h => .inr (Nat.le_trans h2 h)⟩
theorem pieces_nil {b e : Nat} (h : e ≤ b) : pieces b e = [] := pcs_nil _ _ _ _ h
theorem pieces_in (e : Nat) (he : e < 18446744073709551616) : ∀ (n b : Nat), e - b = n → ∀ p ∈ pieces b e, b ≤ nb p ∧ ne p ≤ e := by
  intro n
  induction n using Nat.strongRecOn with
  | ind n ih =>
    intro b hb p hp
    rcases Nat.lt_or_ge b e with h | h
    · obtain ⟨l, hl, _, hst, hdv, hle⟩ := pieces_step h he
      have hp2 := Nat.two_pow_pos l
      rw [hst, List.mem_cons] at hp
      rcases hp with rfl | hp
      · unfold nb ne
        simp only []
        rw [Nat.add_mul, hdv]
        omega
      · obtain ⟨a, c⟩ := ih (e - (b + 2 ^ l)) (by omega) (b + 2 ^ l) rfl p hp
        exact ⟨by omega, c⟩
    · rw [pieces_nil h] at hp; cases hp
def wsum : List (Nat × Nat) → Nat
  | [] => 0
  | p :: L => 2 ^ p.1 + wsum L
theorem wsum_append : ∀ L M : List (Nat × Nat), wsum (L ++ M) = wsum L + wsum M
  | [], M => by simp [wsum]
  | p :: L, M => by rw [List.cons_append, wsum, wsum, wsum_append L M, Nat.add_assoc]
theorem wsum_reverse : ∀ L : List (Nat × Nat), wsum L.reverse = wsum L
  | [] => rfl
  | p :: L => by rw [List.reverse_cons, wsum_append, wsum_reverse L]; simp [wsum]; omega
theorem wsum_sibs : ∀ (n l i : Nat), wsum (sibs l i n) + 2 ^ l = 2 ^ (l + n)
  | 0, l, i => by simp [sibs, wsum]
  | n + 1, l, i => by
    have := wsum_sibs n (l + 1) (i / 2)
    rw [sibs, wsum, show l + (n + 1) = l + 1 + n by omega, ← this, Nat.pow_succ]
    simp only []; omega
theorem wsum_pieces (e : Nat) (he : e < 18446744073709551616) : ∀ (n b : Nat), e - b = n → wsum (pieces b e) = e - b := by
  intro n
  induction n using Nat.strongRecOn with
  | ind n ih =>
    intro b hb
    rcases Nat.lt_or_ge b e with h | h
    · obtain ⟨l, hl, _, hst, hdv, hle⟩ := pieces_step h he
      have hp2 := Nat.two_pow_pos l
      rw [hst, wsum, ih (e - (b + 2 ^ l)) (by omega) (b + 2 ^ l) rfl]
      simp only []; omega
    · rw [pieces_nil h, wsum]; omega
theorem fbeg_le (l i d : Nat) : fbeg l i d ≤ i * 2 ^ l := half_le i d l
theorem le_fend (l i d : Nat) : (i + 1) * 2 ^ l ≤ fend l i d := half_lt i d l
/-- Every node of a plan is there. -/
theorem plan_within {l i s : Nat} (h : i < s / 2 ^ l) (hs : s < 18446744073709551616) : ∀ p ∈ planL l i s, ne p ≤ s := by
  obtain ⟨u1, u2, u3, u4, u5⟩ := up_spec h hs
  have hp2 := Nat.two_pow_pos (l + up l i s)
  intro p hp
  unfold planL at hp
  rw [List.mem_append, List.mem_append, List.mem_cons, List.mem_reverse, List.mem_reverse] at hp
  rcases hp with ((rfl | hp) | hp) | hp
  · exact Nat.le_trans (le_fend l i _) u4
  · exact Nat.le_trans (sibs_in _ _ _ p hp).2.1 u4
  · exact (pieces_in s hs _ _ rfl p hp).2
  · have := (pieces_in (fbeg l i (up l i s)) (by omega) _ _ rfl p hp).2; omega
/-- No node of a plan but the first covers what the first covers; all together cover the rest. -/
theorem plan_apart {l i s : Nat} (h : i < s / 2 ^ l) (hs : s < 18446744073709551616) : ∀ p ∈ (planL l i s).tail, ne p ≤ i * 2 ^ l ∨ (i + 1) * 2 ^ l ≤ nb p := by
  obtain ⟨u1, u2, u3, u4, u5⟩ := up_spec h hs
  have hp2 := Nat.two_pow_pos (l + up l i s)
  intro p hp
  unfold planL at hp
  rw [List.cons_append, List.cons_append, List.tail_cons, List.mem_append, List.mem_append, List.mem_reverse, List.mem_reverse] at hp
  rcases hp with (hp | hp) | hp
  · exact (sibs_in _ _ _ p hp).2.2
  · exact .inr (Nat.le_trans (le_fend l i _) (pieces_in s hs _ _ rfl p hp).1)
  · exact .inl (Nat.le_trans (pieces_in (fbeg l i (up l i s)) (by omega) _ _ rfl p hp).2 (fbeg_le l i _))
theorem plan_sum {l i s : Nat} (h : i < s / 2 ^ l) (hs : s < 18446744073709551616) : wsum (planL l i s).tail + 2 ^ l = s := by
  obtain ⟨u1, u2, u3, u4, u5⟩ := up_spec h hs
  have hp2 := Nat.two_pow_pos (l + up l i s)
  unfold planL
  rw [List.cons_append, List.cons_append, List.tail_cons, wsum_append, wsum_append, wsum_reverse, wsum_reverse, wsum_pieces s hs _ _ rfl, wsum_pieces _ (by omega) _ _ rfl]
  have := wsum_sibs (up l i s) l i
  omega
theorem plan_len {l i s : Nat} (h : i < s / 2 ^ l) (hs : s < 18446744073709551616) : (planL l i s).length ≤ 1000 := by
  have l1 := pieces_len (fend l i (up l i s)) s hs
  have hu := up_spec h hs
  have hp2 := Nat.two_pow_pos (l + up l i s)
  have l0 := pieces_len 0 (fbeg l i (up l i s)) (by omega)
  unfold planL
  simp [sibs_length]
  omega
end Go.Proofs.YtpdmmmcelkinjaaFmt.Pl
/- The trees beside the path of a leaf, told from the leaf upwards. -/
open Go
namespace Go.Proofs.YtpdmmmcelkinjaaFmt.Pl
/-- The tree beside node i of level k, of the leaves up to e: where it begins, and of how many leaves it is. -/
def sibAt (k i e : Nat) : List (Nat × Nat) :=
  if i % 2 = 1 then [((i - 1) * 2 ^ k, 2 ^ k)] else if (i + 1) * 2 ^ k < e then [((i + 1) * 2 ^ k, min (2 ^ k) (e - (i + 1) * 2 ^ k))] else []
def upS : Nat → Nat → Nat → Nat → List (Nat × Nat)
  | 0, _, _, _ => []
  | f + 1, k, i, e => sibAt k i e ++ upS f (k + 1) (i / 2) e
theorem div_pow_succ (x f : Nat) : x / 2 / 2 ^ f = x / 2 ^ (f + 1) := by rw [Nat.div_div_eq_div_mul, Nat.pow_succ, Nat.mul_comm]
theorem upS_snoc : ∀ (f k i e : Nat), upS (f + 1) k i e = upS f k i e ++ sibAt (k + f) (i / 2 ^ f) e
  | 0, k, i, e => by simp [upS]
  | f + 1, k, i, e => by
    rw [upS, upS_snoc f (k + 1) (i / 2) e, upS, List.append_assoc, div_pow_succ, show k + 1 + f = k + (f + 1) by omega]
theorem upS_add : ∀ (f g k i e : Nat), upS (f + g) k i e = upS f k i e ++ upS g (k + f) (i / 2 ^ f) e
  | 0, g, k, i, e => by simp [upS]
  | f + 1, g, k, i, e => by
    rw [show f + 1 + g = (f + g) + 1 by omega, upS, upS_add f g, upS, List.append_assoc, div_pow_succ, show k + 1 + f = k + (f + 1) by omega]
theorem block_le {x M m : Nat} (hx : x < M) (h : M % m = 0) : (x / m + 1) * m ≤ M := by
  obtain ⟨c, rfl⟩ := Nat.dvd_of_mod_eq_zero h
  have hm : 0 < m := by rcases Nat.eq_zero_or_pos m with h | h <;> simp_all
  have : x / m < c := (Nat.div_lt_iff_lt_mul hm).2 (by rw [Nat.mul_comm]; exact hx)
  rw [Nat.mul_comm m c]
  exact Nat.mul_le_mul_right _ this
theorem sibAt_full {k i M e : Nat} (h : (i / 2 + 1) * 2 ^ (k + 1) ≤ M) (hM : M ≤ e) : sibAt k i M = sibAt k i e := by
  unfold sibAt
  by_cases ho : i % 2 = 1
  · rw [if_pos ho, if_pos ho]
  · rw [if_neg ho, if_neg ho]
    have hp := Nat.two_pow_pos k
    have e1 : (i / 2 + 1) * 2 ^ (k + 1) = (i + 1) * 2 ^ k + 2 ^ k := by
      rw [Nat.pow_succ, ← Nat.mul_assoc, Nat.mul_right_comm]
      have : (i / 2 + 1) * 2 = i + 1 + 1 := by omega
      rw [this, Nat.add_mul (i + 1) 1, Nat.one_mul]
    rw [if_pos (by omega), if_pos (by omega), Nat.min_eq_left (by omega), Nat.min_eq_left (by omega)]
theorem upS_full {M e x : Nat} (hM : M ≤ e) (hx : x < M) : ∀ f : Nat, M % 2 ^ f = 0 → upS f 0 x M = upS f 0 x e
  | 0, _ => rfl
  | f + 1, h => by
    have h' : M % 2 ^ f = 0 := by
      have := Nat.mod_mul_right_mod M (2 ^ f) 2
      rw [← Nat.pow_succ, h] at this
      simpa using this.symm
    rw [upS_snoc, upS_snoc, upS_full hM hx f h', sibAt_full ?_ hM]
    rw [Nat.zero_add, Nat.div_div_eq_div_mul, ← Nat.pow_succ]
    exact block_le hx h
theorem sides_up : ∀ (K a idx n : Nat), a % 2 ^ K = 0 → idx < n → n ≤ 2 ^ K → sides a idx n = upS K 0 (a + idx) (a + n)
  | 0, a, idx, n, _, hlt, hn => by
    have h1 : n = 1 := by simp at hn; omega
    subst h1
    rw [sides_one]; rfl
  | K + 1, a, idx, n, ha, hlt, hn => by
    have hp := Nat.two_pow_pos K
    obtain ⟨c, rfl⟩ := Nat.dvd_of_mod_eq_zero ha
    have hd : ∀ x, (2 ^ (K + 1) * c + x) / 2 ^ K = 2 * c + x / 2 ^ K := fun x => by
      rw [Nat.pow_succ, Nat.mul_assoc, Nat.mul_add_div hp]
    have hmod : ∀ x, (2 ^ (K + 1) * c + 2 ^ K * x) % 2 ^ K = 0 := fun x => by
      rw [Nat.pow_succ, Nat.mul_assoc, ← Nat.mul_add, Nat.mul_mod_right]
    rw [upS_snoc, hd, Nat.zero_add]
    rcases Nat.lt_or_ge (2 ^ K) n with h2 | h2
    · have hs : split n = 2 ^ K := split_eq h2 hn
      have h2n : 2 ≤ n := by omega
      rcases Nat.lt_or_ge idx (2 ^ K) with hi | hi
      · rw [sides_l h2n (by omega), hs, sides_up K _ idx (2 ^ K) (by simpa using hmod 0) hi (Nat.le_refl _),
          upS_full (M := 2 ^ (K + 1) * c + 2 ^ K) (e := 2 ^ (K + 1) * c + n) (by omega) (by omega) K (by simpa using hmod 1), Nat.div_eq_of_lt hi]
        congr 1
        unfold sibAt
        rw [if_neg (by omega)]
        have e1 : (2 * c + 0 + 1) * 2 ^ K = 2 ^ (K + 1) * c + 2 ^ K := by
          rw [Nat.pow_succ, Nat.add_zero, Nat.add_mul, Nat.one_mul, Nat.mul_assoc (2 ^ K), Nat.mul_comm (2 ^ K) (2 * c)]
        rw [e1, if_pos (by omega), Nat.min_eq_right (by rw [Nat.pow_succ] at hn; omega), show 2 ^ (K + 1) * c + n - (2 ^ (K + 1) * c + 2 ^ K) = n - 2 ^ K by omega]
      · have hk : 2 ^ (K + 1) = 2 ^ K + 2 ^ K := by rw [Nat.pow_succ]; omega
        rw [sides_r h2n (by omega), hs, sides_up K _ (idx - 2 ^ K) (n - 2 ^ K) (by simpa using hmod 1) (by omega) (by omega),
          show 2 ^ (K + 1) * c + 2 ^ K + (idx - 2 ^ K) = 2 ^ (K + 1) * c + idx by omega, show 2 ^ (K + 1) * c + 2 ^ K + (n - 2 ^ K) = 2 ^ (K + 1) * c + n by omega]
        congr 1
        have e1 : idx / 2 ^ K = 1 := Nat.div_eq_of_lt_le (by omega) (by omega)
        rw [e1]
        unfold sibAt
        rw [if_pos (by omega), Nat.add_sub_cancel, Nat.pow_succ, Nat.mul_assoc, Nat.mul_comm]
    · rw [sides_up K _ idx n (by simpa using hmod 0) hlt h2, Nat.div_eq_of_lt (Nat.lt_of_lt_of_le hlt h2)]
      have e2 : sibAt K (2 * c + 0) (2 ^ (K + 1) * c + n) = [] := by
        unfold sibAt
        have e1 : (2 * c + 0 + 1) * 2 ^ K = 2 ^ (K + 1) * c + 2 ^ K := by
          rw [Nat.pow_succ, Nat.add_zero, Nat.add_mul, Nat.one_mul, Nat.mul_assoc (2 ^ K), Nat.mul_comm (2 ^ K) (2 * c)]
        rw [if_neg (by omega), if_neg (by rw [e1]; omega)]
      rw [e2, List.append_nil]
/-! ### The three parts of the way up: as long as the other trees are whole; the one that is not; those at the left. -/
/-- A node as a range of leaves. -/
def rng (p : Nat × Nat) : Nat × Nat := (p.2 * 2 ^ p.1, 2 ^ p.1)
theorem upS_sibs : ∀ (f k i s : Nat), (i / 2 ^ f + 1) * 2 ^ (k + f) ≤ s → upS f k i s = (sibs k i f).map rng
  | 0, _, _, _, _ => rfl
  | f + 1, k, i, s, h => by
    have h1 : (i / 2 / 2 ^ f + 1) * 2 ^ (k + 1 + f) ≤ s := by rw [div_pow_succ, show k + 1 + f = k + (f + 1) by omega]; exact h
    have h2 := half_lt (i / 2) f (k + 1)
    rw [upS, sibs, List.map_cons, upS_sibs f (k + 1) (i / 2) s h1]
    have e1 : (i / 2 + 1) * 2 ^ (k + 1) = (i / 2 * 2 + 1) * 2 ^ k + 2 ^ k := by
      rw [Nat.pow_succ, ← Nat.mul_assoc, Nat.mul_right_comm, Nat.add_mul (i / 2) 1 2, show i / 2 * 2 + 1 * 2 = i / 2 * 2 + 1 + 1 by omega, Nat.add_mul (i / 2 * 2 + 1) 1, Nat.one_mul]
    have hp := Nat.two_pow_pos k
    unfold sibAt rng
    rw [xor1]
    simp only []
    by_cases ho : i % 2 = 1
    · rw [if_pos ho, if_pos ho]; rfl
    · have e2 : i / 2 * 2 = i := by omega
      rw [e2] at e1
      rw [if_neg ho, if_neg ho, if_pos (by omega), Nat.min_eq_left (by omega)]; rfl
theorem pcs_even (f k b : Nat) : pcs (f + 1) k 0 (2 * b) = pcs f (k + 1) 0 b := by
  rcases Nat.eq_zero_or_pos b with h | h
  · subst h; rw [pcs_nil _ _ _ _ (Nat.le_refl _), pcs_nil _ _ _ _ (Nat.le_refl _)]
  · rw [pcs, if_neg (by omega), if_neg (by omega), if_neg (by omega), show (0 + 1) / 2 = 0 by omega, show 2 * b / 2 = b by omega]; simp
theorem pcs_pow : ∀ (d f k b : Nat), pcs (f + d) k 0 (b * 2 ^ d) = pcs f (k + d) 0 b
  | 0, f, k, b => by simp
  | d + 1, f, k, b => by
    rw [show f + (d + 1) = f + d + 1 by omega, show b * 2 ^ (d + 1) = 2 * (b * 2 ^ d) by rw [Nat.pow_succ, ← Nat.mul_assoc, Nat.mul_comm], pcs_even, pcs_pow d f (k + 1) b, show k + 1 + d = k + (d + 1) by omega]
/-- Above the place where the other tree is not whole only trees at the left stand. -/
theorem upS_left : ∀ (f k i s : Nat), i = s / 2 ^ k → upS f k i s = ((pcs f k 0 i).reverse).map rng
  | 0, _, _, _, _ => rfl
  | f + 1, k, i, s, h => by
    have h1 : i / 2 = s / 2 ^ (k + 1) := by rw [h, Nat.div_div_eq_div_mul, Nat.pow_succ]
    have hlt : s < (i + 1) * 2 ^ k := by rw [h]; exact Nat.lt_mul_of_div_lt (by omega) (Nat.two_pow_pos k)
    rw [upS, upS_left f (k + 1) (i / 2) s h1]
    unfold sibAt
    by_cases ho : i % 2 = 1
    · rw [if_pos ho]
      conv => rhs; rw [pcs, if_neg (by omega), if_neg (by omega), if_pos ho, show (0 + 1) / 2 = 0 by omega]
      simp [rng]
    · rw [if_neg ho, if_neg (by omega)]
      rcases Nat.eq_zero_or_pos i with h0 | h0
      · subst h0; rw [pcs_nil _ _ _ _ (Nat.le_refl _), pcs_nil _ _ _ _ (Nat.le_refl _)]; rfl
      · conv => rhs; rw [pcs, if_neg (by omega), if_neg (by omega), if_neg ho, show (0 + 1) / 2 = 0 by omega]
        simp
end Go.Proofs.YtpdmmmcelkinjaaFmt.Pl
/- The way up from a node in its three parts; the consistency proof as ranges. -/
open Go
namespace Go.Proofs.YtpdmmmcelkinjaaFmt.Pl
/-- The tree that is not whole. -/
def mid (l i s : Nat) : List (Nat × Nat) := if fend l i (up l i s) < s then [(fend l i (up l i s), s - fend l i (up l i s))] else []
theorem up_parts {l i s : Nat} (h : i < s / 2 ^ l) (hs : s < 18446744073709551616) :
    upS (64 - l) l i s = (sibs l i (up l i s)).map rng ++ mid l i s ++ ((pieces 0 (fbeg l i (up l i s))).reverse).map rng := by
  obtain ⟨u1, u2, u3, u4, u5⟩ := up_spec h hs
  unfold mid
  generalize up l i s = d at *
  have e0 : 64 - l = d + ((63 - (l + d)) + 1) := by omega
  rw [e0, upS_add, upS_sibs d l i s u4, upS, List.append_assoc]
  congr 1
  have hp := Nat.two_pow_pos (l + d)
  have e1 : s / 2 ^ (l + d) = i / 2 ^ d + 1 := by rw [Nat.pow_add, ← Nat.div_div_eq_div_mul]; exact u3
  have hlt : s < fend l i d + 2 ^ (l + d) := by
    have := Nat.lt_mul_of_div_lt (a := s) (b := i / 2 ^ d + 1 + 1) (c := 2 ^ (l + d)) (by omega) hp
    unfold fend
    rw [Nat.add_mul (i / 2 ^ d + 1) 1, Nat.one_mul] at this
    exact this
  have e2 : i / 2 ^ d / 2 = s / 2 ^ (l + d + 1) := by rw [Nat.pow_succ, ← Nat.div_div_eq_div_mul, e1]; omega
  rw [upS_left _ (l + d + 1) _ s e2]
  congr 1
  · unfold sibAt
    rw [if_neg (by omega)]
    show (if fend l i d < s then [(fend l i d, min (2 ^ (l + d)) (s - fend l i d))] else []) = _
    by_cases hf : fend l i d < s
    · rw [if_pos hf, if_pos hf, Nat.min_eq_right (by omega)]
    · rw [if_neg hf, if_neg hf]
  · have e3 : pieces 0 (fbeg l i d) = pcs (63 - (l + d)) (l + d + 1) 0 (i / 2 ^ d / 2) := by
      unfold pieces fbeg
      rw [show (64 : Nat) = (64 - (l + d)) + (l + d) by omega, pcs_pow, Nat.zero_add, show 64 - (l + d) = (63 - (l + d)) + 1 by omega]
      conv => lhs; rw [show i / 2 ^ d = 2 * (i / 2 ^ d / 2) by omega]
      rw [pcs_even]
    rw [e3]
theorem pieces_empty {b e : Nat} (he : e < 18446744073709551616) : (pieces b e).length = 0 ↔ e ≤ b := by
  constructor
  · intro h
    rcases Nat.lt_or_ge b e with hlt | hge
    · obtain ⟨l, _, _, hst, _⟩ := pieces_step hlt he
      rw [hst] at h; simp at h
    · exact hge
  · intro h; rw [pieces_nil h]; rfl
theorem mid_len {l i s : Nat} (hs : s < 18446744073709551616) : (mid l i s).length = if (pieces (fend l i (up l i s)) s).length = 0 then 0 else 1 := by
  unfold mid
  by_cases h : fend l i (up l i s) < s
  · rw [if_pos h, if_neg (by rw [pieces_empty hs]; omega)]; rfl
  · rw [if_neg h, if_pos (by rw [pieces_empty hs]; omega)]; rfl
theorem sides_parts {i s : Nat} (h : i < s) (hs : s < 18446744073709551616) :
    sides 0 i s = (sibs 0 i (up 0 i s)).map rng ++ mid 0 i s ++ ((pieces 0 (fbeg 0 i (up 0 i s))).reverse).map rng := by
  have h0 : i < s / 2 ^ 0 := by simpa using h
  have := up_parts h0 hs
  rw [← this, sides_up 64 0 i s (by decide) h (by omega)]
  simp

/-! ### The consistency proof -/
def cproof (a m n : Nat) (whole : Bool) : List (Nat × Nat) :=
  if m = n then (if whole then [] else [(a, n)]) else
  if _hn : n ≤ 1 then [] else if m ≤ split n then cproof a m (split n) whole ++ [(a + split n, n - split n)] else cproof (a + split n) (m - split n) (n - split n) false ++ [(a, split n)]
termination_by n
decreasing_by
  · exact (split_spec (by omega)).1
  · have := split_pos n; omega
theorem cproof_eq (a n : Nat) (whole : Bool) : cproof a n n whole = if whole then [] else [(a, n)] := by rw [cproof, if_pos rfl]
theorem cproof_l {a m n : Nat} {whole : Bool} (hm : m ≠ n) (hn : 2 ≤ n) (h : m ≤ split n) : cproof a m n whole = cproof a m (split n) whole ++ [(a + split n, n - split n)] := by
  rw [cproof, if_neg hm, dif_neg (by omega), if_pos h]
theorem cproof_r {a m n : Nat} {whole : Bool} (hm : m ≠ n) (hn : 2 ≤ n) (h : ¬ m ≤ split n) : cproof a m n whole = cproof (a + split n) (m - split n) (n - split n) false ++ [(a, split n)] := by
  rw [cproof, if_neg hm, dif_neg (by omega), if_neg h]
/-- What is known of the first tree: it is whole, or one node of it is told. -/
def seedR (a m t q : Nat) (whole : Bool) : List (Nat × Nat) := if whole = true ∧ q = 0 then [] else [(a + m - 2 ^ t, 2 ^ t)]
theorem cproof_up : ∀ (K a m n t q : Nat) (whole : Bool), a % 2 ^ K = 0 → m = 2 ^ t * (2 * q + 1) → m ≤ n → n ≤ 2 ^ K → (m < n ∨ q = 0) →
    t ≤ K ∧ cproof a m n whole = seedR a m t q whole ++ upS (K - t) t ((a + m - 1) / 2 ^ t) (a + n)
  | 0, a, m, n, t, q, whole, ha, hm, hmn, hn, hq => by
    have hp := Nat.two_pow_pos t
    have h1 : 2 ^ t * 1 ≤ 2 ^ t * (2 * q + 1) := Nat.mul_le_mul_left _ (by omega)
    have hn1 : n ≤ 1 := by simpa using hn
    have ht : t = 0 := by
      rcases Nat.eq_zero_or_pos t with h | h
      · exact h
      · have : 2 ^ 1 ≤ 2 ^ t := Nat.pow_le_pow_right (by decide) h
        omega
    subst ht
    have hn2 : n = 1 := by omega
    have hm2 : m = 1 := by omega
    have hq0 : q = 0 := by simp at hm; omega
    subst hn2 hm2 hq0
    rw [cproof_eq]
    refine ⟨Nat.le_refl _, ?_⟩
    cases whole <;> simp [seedR, upS]
  | K + 1, a, m, n, t, q, whole, ha, hm, hmn, hn, hq => by
    have hp := Nat.two_pow_pos t
    have hpK := Nat.two_pow_pos K
    have h1 : 2 ^ t * 1 ≤ 2 ^ t * (2 * q + 1) := Nat.mul_le_mul_left _ (by omega)
    obtain ⟨c, rfl⟩ := Nat.dvd_of_mod_eq_zero ha
    have hmod : ∀ x, (2 ^ (K + 1) * c + 2 ^ K * x) % 2 ^ K = 0 := fun x => by
      rw [Nat.pow_succ, Nat.mul_assoc, ← Nat.mul_add, Nat.mul_mod_right]
    have hd : ∀ x, (2 ^ (K + 1) * c + x) / 2 ^ K = 2 * c + x / 2 ^ K := fun x => by
      rw [Nat.pow_succ, Nat.mul_assoc, Nat.mul_add_div hpK]
    have hk : 2 ^ (K + 1) = 2 ^ K + 2 ^ K := by rw [Nat.pow_succ]; omega
    have e1 : (2 * c + 1) * 2 ^ K = 2 ^ (K + 1) * c + 2 ^ K := by
      rw [Nat.pow_succ, Nat.add_mul, Nat.one_mul, Nat.mul_assoc (2 ^ K), Nat.mul_comm (2 ^ K) (2 * c)]
    have hsnoc : t ≤ K → upS (K + 1 - t) t ((2 ^ (K + 1) * c + m - 1) / 2 ^ t) (2 ^ (K + 1) * c + n) = upS (K - t) t ((2 ^ (K + 1) * c + m - 1) / 2 ^ t) (2 ^ (K + 1) * c + n) ++ sibAt K ((2 ^ (K + 1) * c + m - 1) / 2 ^ K) (2 ^ (K + 1) * c + n) := fun htK => by
      rw [show K + 1 - t = (K - t) + 1 by omega, upS_snoc, show t + (K - t) = K by omega, Nat.div_div_eq_div_mul, ← Nat.pow_add, show t + (K - t) = K by omega]
    rcases Nat.lt_or_ge (2 ^ K) n with h2 | h2
    · have hs : split n = 2 ^ K := split_eq h2 hn
      have h2n : 2 ≤ n := by omega
      by_cases hmn2 : m = n
      · have hq0 : q = 0 := by omega
        subst hmn2 hq0
        have ht : t = K + 1 := by
          have h3 : 2 ^ t = m := by omega
          rcases Nat.lt_or_ge t (K + 1) with h | h
          · have : 2 ^ t ≤ 2 ^ K := Nat.pow_le_pow_right (by decide) (by omega)
            omega
          · rcases Nat.lt_or_ge (K + 1) t with h' | h'
            · have : 2 ^ (K + 1 + 1) ≤ 2 ^ t := Nat.pow_le_pow_right (by decide) h'
              rw [Nat.pow_succ] at this
              omega
            · omega
        refine ⟨by omega, ?_⟩
        rw [cproof_eq, ht, Nat.sub_self]
        unfold seedR upS
        have h3 : 2 ^ (K + 1) = m := by rw [← ht]; omega
        rw [h3]
        cases whole <;> simp
      · rcases Nat.lt_or_ge (2 ^ K) m with hi | hi
        · -- behind the split
          have hm' : m - 2 ^ K < n - 2 ^ K := by omega
          have htK : t ≤ K := by
            rcases Nat.lt_or_ge K t with h | h
            · exfalso
              have h3 : 2 ^ (K + 1) ≤ 2 ^ t := Nat.pow_le_pow_right (by decide) h
              omega
            · exact h
          have htK2 : t < K + 1 := by omega
          obtain ⟨q', hq'⟩ : ∃ q', m - 2 ^ K = 2 ^ t * (2 * q' + 1) := by
            rcases Nat.lt_or_ge t K with h | h
            · refine ⟨q - 2 ^ (K - t - 1), ?_⟩
              have e3 : 2 ^ K = 2 ^ t * (2 * 2 ^ (K - t - 1)) := by rw [← Nat.pow_succ', ← Nat.pow_add]; congr 1; omega
              have h4 : 2 ^ t * (2 * 2 ^ (K - t - 1)) < 2 ^ t * (2 * q + 1) := by omega
              have h5 := Nat.lt_of_mul_lt_mul_left h4
              rw [hm, e3, ← Nat.mul_sub]
              congr 1; omega
            · exfalso
              have hKt : t = K := by omega
              subst hKt
              have h4 : 2 ^ t * (2 * q + 1) < 2 ^ t * 2 := by omega
              have h5 := Nat.lt_of_mul_lt_mul_left h4
              have hq0 : q = 0 := by omega
              subst hq0
              omega
          obtain ⟨_, hr⟩ := cproof_up K (2 ^ (K + 1) * c + 2 ^ K) (m - 2 ^ K) (n - 2 ^ K) t q' false (by simpa using hmod 1) hq' (by omega) (by omega) (.inl hm')
          refine ⟨by omega, ?_⟩
          rw [cproof_r hmn2 h2n (by omega), hs, hr, hsnoc htK, show 2 ^ (K + 1) * c + 2 ^ K + (m - 2 ^ K) = 2 ^ (K + 1) * c + m by omega, show 2 ^ (K + 1) * c + 2 ^ K + (n - 2 ^ K) = 2 ^ (K + 1) * c + n by omega, ← List.append_assoc]
          congr 1
          · congr 1
            unfold seedR
            have hq0 : q ≠ 0 := by
              rintro rfl
              rcases Nat.lt_or_ge t K with h | h
              · have : 2 ^ t ≤ 2 ^ K := Nat.pow_le_pow_right (by decide) (by omega)
                omega
              · have : t = K := by omega
                subst this; omega
            rw [if_neg (by simp), if_neg (by simp [hq0]), show 2 ^ (K + 1) * c + 2 ^ K + (m - 2 ^ K) = 2 ^ (K + 1) * c + m by omega]
          · have e4 : (2 ^ (K + 1) * c + m - 1) / 2 ^ K = 2 * c + 1 := by
              rw [show 2 ^ (K + 1) * c + m - 1 = 2 ^ (K + 1) * c + (m - 1) by omega, hd, Nat.div_eq_of_lt_le (k := 1) (by omega) (by omega)]
            rw [e4]
            unfold sibAt
            rw [if_pos (by omega), Nat.add_sub_cancel, Nat.pow_succ, Nat.mul_assoc, Nat.mul_comm (2 ^ K)]
        · obtain ⟨htK, hr⟩ := cproof_up K (2 ^ (K + 1) * c) m (2 ^ K) t q whole (by simpa using hmod 0) hm hi (Nat.le_refl _) (by
            rcases Nat.lt_or_ge m (2 ^ K) with h | h
            · exact .inl h
            · right
              have hmK : m = 2 ^ K := by omega
              rw [hmK] at hm
              rcases Nat.eq_zero_or_pos q with h0 | h0
              · exact h0
              · exfalso
                rcases Nat.lt_or_ge t K with h | h
                · have e3 : 2 ^ K = 2 ^ t * (2 * 2 ^ (K - t - 1)) := by rw [← Nat.pow_succ', ← Nat.pow_add]; congr 1; omega
                  rw [e3] at hm
                  have := Nat.eq_of_mul_eq_mul_left hp hm
                  omega
                · have h3 : 2 ^ K ≤ 2 ^ t := Nat.pow_le_pow_right (by decide) h
                  have h4 : 2 ^ t * 3 ≤ 2 ^ t * (2 * q + 1) := Nat.mul_le_mul_left _ (by omega)
                  omega)
          refine ⟨by omega, ?_⟩
          rw [cproof_l hmn2 h2n (by omega), hs, hr, hsnoc htK, ← List.append_assoc]
          have hfull : upS (K - t) t ((2 ^ (K + 1) * c + m - 1) / 2 ^ t) (2 ^ (K + 1) * c + 2 ^ K) = upS (K - t) t ((2 ^ (K + 1) * c + m - 1) / 2 ^ t) (2 ^ (K + 1) * c + n) := by
            have hA := upS_full (M := 2 ^ (K + 1) * c + 2 ^ K) (e := 2 ^ (K + 1) * c + n) (x := 2 ^ (K + 1) * c + m - 1) (by omega) (by omega) K (by simpa using hmod 1)
            have hB := upS_full (M := 2 ^ (K + 1) * c + 2 ^ K) (e := 2 ^ (K + 1) * c + n) (x := 2 ^ (K + 1) * c + m - 1) (by omega) (by omega) t (by
              have := Nat.mod_mul_right_mod (2 ^ (K + 1) * c + 2 ^ K) (2 ^ t) (2 ^ (K - t))
              rw [← Nat.pow_add, show t + (K - t) = K by omega, show (2 ^ (K + 1) * c + 2 ^ K) % 2 ^ K = 0 by simpa using hmod 1] at this
              simpa using this.symm)
            rw [show K = t + (K - t) by omega, upS_add, upS_add, ← show K = t + (K - t) by omega, hB, Nat.zero_add] at hA
            exact List.append_cancel_left hA
          rw [hfull]
          congr 1
          have e4 : (2 ^ (K + 1) * c + m - 1) / 2 ^ K = 2 * c := by
            rw [show 2 ^ (K + 1) * c + m - 1 = 2 ^ (K + 1) * c + (m - 1) by omega, hd, Nat.div_eq_of_lt (by omega), Nat.add_zero]
          rw [e4]
          unfold sibAt
          rw [if_neg (by omega), e1, if_pos (by omega), Nat.min_eq_right (by omega), show 2 ^ (K + 1) * c + n - (2 ^ (K + 1) * c + 2 ^ K) = n - 2 ^ K by omega]
    · obtain ⟨htK, hr⟩ := cproof_up K (2 ^ (K + 1) * c) m n t q whole (by simpa using hmod 0) hm hmn h2 hq
      refine ⟨by omega, ?_⟩
      rw [hr, hsnoc htK]
      have e4 : (2 ^ (K + 1) * c + m - 1) / 2 ^ K = 2 * c := by
        rw [show 2 ^ (K + 1) * c + m - 1 = 2 ^ (K + 1) * c + (m - 1) by omega, hd, Nat.div_eq_of_lt (by omega), Nat.add_zero]
      have e2 : sibAt K (2 * c) (2 ^ (K + 1) * c + n) = [] := by
        unfold sibAt
        rw [if_neg (by omega), if_neg (by rw [e1]; omega)]
      rw [e4, e2, List.append_nil]
end Go.Proofs.YtpdmmmcelkinjaaFmt.Pl
/- The two parts of an inclusion proof, in plain numbers. -/
open Go
namespace Go.Proofs.YtpdmmmcelkinjaaFmt.Pl
/-- Where the path of a leaf meets that of the last one. -/
def inn (i n : Nat) : Nat := bitLen (i ^^^ (n - 1))
def bord (i n : Nat) : Nat := pop64 (i / 2 ^ inn i n)
theorem pop_zero : ∀ f, pop f 0 = 0
  | 0 => rfl
  | f + 1 => by rw [pop, Nat.zero_div, pop_zero f]
theorem pop_top {k x : Nat} (hk : k < 64) (hx : x < 2 ^ k) : pop64 (2 ^ k + x) = pop64 x + 1 := by
  have h : ∀ y, pop64 y = pop k y + pop (64 - k) (y / 2 ^ k) := fun y => by
    unfold pop64
    conv => lhs; rw [show (64 : Nat) = k + (64 - k) by omega, pop_add]
  have hp := Nat.two_pow_pos k
  rw [h, h x, Nat.div_eq_of_lt hx]
  have e1 : (2 ^ k + x) / 2 ^ k = 1 := Nat.div_eq_of_lt_le (by omega) (by omega)
  have e2 : pop k (2 ^ k + x) = pop k x := by
    rw [← pop_mod k (2 ^ k + x), Nat.add_mod_left, Nat.mod_eq_of_lt hx]
  rw [e1, e2, show 64 - k = (63 - k) + 1 by omega, pop, show (1 : Nat) / 2 = 0 by omega, pop_zero, pop_zero]
theorem lowbits_mod : ∀ (j x c : Nat), lowbits j (x + 2 ^ j * c) = lowbits j x := by
  intro j
  induction j with
  | zero => intro x c; rfl
  | succ j ih =>
    intro x c
    rw [lowbits, lowbits, show (x + 2 ^ (j + 1) * c) / 2 = x / 2 + 2 ^ j * c by rw [Nat.pow_succ, Nat.mul_comm (2 ^ j) 2, Nat.mul_assoc]; omega, ih,
      show (x + 2 ^ (j + 1) * c) % 2 = x % 2 by rw [Nat.pow_succ, Nat.mul_comm (2 ^ j) 2, Nat.mul_assoc]; omega]
theorem dirs_pow : ∀ (j i : Nat), i < 2 ^ j → dirs i (2 ^ j) = lowbits j i
  | 0, i, h => by
    have : i = 0 := by simpa using h
    subst this
    rw [Nat.pow_zero, dirs_one]; rfl
  | j + 1, i, h => by
    have hp := Nat.two_pow_pos j
    have h2 : 2 ≤ 2 ^ (j + 1) := by rw [Nat.pow_succ]; omega
    have hk : 2 ^ (j + 1) = 2 ^ j + 2 ^ j := by rw [Nat.pow_succ]; omega
    have hs := split_pow j
    rw [lowbits_snoc]
    by_cases hi : i < 2 ^ j
    · rw [dirs_l h2 (by omega), hs, dirs_pow j i hi, Nat.div_eq_of_lt hi]; rfl
    · rw [dirs_r h2 (by omega), hs, show 2 ^ (j + 1) - 2 ^ j = 2 ^ j by omega, dirs_pow j (i - 2 ^ j) (by omega)]
      have e1 : i / 2 ^ j = 1 := Nat.div_eq_of_lt_le (by omega) (by omega)
      rw [e1]
      have e2 : lowbits j (i - 2 ^ j) = lowbits j i := by
        have h3 := lowbits_mod j (i - 2 ^ j) 1
        rw [Nat.mul_one, Nat.sub_add_cancel (by omega)] at h3
        exact h3.symm
      rw [e2]; rfl
theorem xor_top {j x y : Nat} (hx : x < 2 ^ j) (hy : y < 2 ^ j) : (2 ^ j + x) ^^^ (2 ^ j + y) = x ^^^ y := by
  apply Nat.eq_of_testBit_eq
  intro i
  have h : ∀ z, z < 2 ^ j → (2 ^ j + z).testBit i = if i < j then z.testBit i else decide (i = j) := fun z hz => by
    have := Nat.testBit_two_pow_mul_add 1 hz i
    rw [Nat.mul_one] at this
    rw [this]
    split
    · rfl
    · rename_i hge
      by_cases e : i = j
      · subst e; simp
      · rw [Nat.testBit_lt_two_pow (Nat.one_lt_two_pow (by omega))]; simp [e]
  rw [Nat.testBit_xor, Nat.testBit_xor, h x hx, h y hy]
  split
  · rfl
  · rename_i hge
    have : ∀ z, z < 2 ^ j → z.testBit i = false := fun z hz => Nat.testBit_lt_two_pow (Nat.lt_of_lt_of_le hz (Nat.pow_le_pow_right (by decide) (by omega)))
    rw [this x hx, this y hy]; simp
theorem xor_bit_top {j x y : Nat} (hx : x < 2 ^ j) (hy : y < 2 ^ j) : 2 ^ j ≤ x ^^^ (2 ^ j + y) ∧ x ^^^ (2 ^ j + y) < 2 ^ (j + 1) := by
  constructor
  · have h : (x ^^^ (2 ^ j + y)).testBit j = true := by
      have := Nat.testBit_two_pow_mul_add 1 hy j
      rw [Nat.mul_one] at this
      rw [Nat.testBit_xor, this, Nat.testBit_lt_two_pow hx]; simp
    exact Nat.ge_two_pow_of_testBit h
  · exact Nat.xor_lt_two_pow (by rw [Nat.pow_succ]; omega) (by rw [Nat.pow_succ]; omega)
set_option maxHeartbeats 1000000 in
theorem dirs_eq (n : Nat) : ∀ i, i < n → n < 18446744073709551616 → dirs i n = lowbits (inn i n) i ++ List.replicate (bord i n) true := by
  induction n using Nat.strongRecOn with
  | ind n ih =>
    intro i hi hn
    by_cases h2 : 2 ≤ n
    · obtain ⟨s1, s2⟩ := split_spec h2
      have hsp : split n = 2 ^ slog n := rfl
      rw [hsp] at s1 s2
      generalize slog n = j at *
      have hp := Nat.two_pow_pos j
      have hj : j < 64 := by
        rcases Nat.lt_or_ge j 64 with h | h
        · exact h
        · have : 2 ^ 64 ≤ 2 ^ j := Nat.pow_le_pow_right (by decide) h
          omega
      obtain ⟨y, hy⟩ : ∃ y, n - 1 = 2 ^ j + y := ⟨n - 1 - 2 ^ j, by omega⟩
      by_cases hlt : i < 2 ^ j
      · have hx := xor_bit_top hlt (show y < 2 ^ j by omega)
        have e1 : inn i n = j + 1 := by
          unfold inn
          rw [hy]
          have a := blen_le hx.2
          have b := blen_gt hx.1
          omega
        have e2 : bord i n = 0 := by
          unfold bord
          rw [e1, Nat.div_eq_of_lt (by rw [Nat.pow_succ]; omega)]
          exact pop_zero 64
        rw [dirs_l h2 (by omega), hsp, dirs_pow j i hlt, e1, e2, lowbits_snoc, Nat.div_eq_of_lt hlt]
        simp
      · obtain ⟨x, rfl⟩ : ∃ x, i = 2 ^ j + x := ⟨i - 2 ^ j, by omega⟩
        have e1 : inn (2 ^ j + x) n = inn x (n - 2 ^ j) := by
          unfold inn
          rw [hy, xor_top (by omega) (by omega), show n - 2 ^ j - 1 = y by omega]
        have hle : inn x (n - 2 ^ j) ≤ j := by
          unfold inn
          exact blen_le (Nat.xor_lt_two_pow (by omega) (by omega))
        have e2 : bord (2 ^ j + x) n = bord x (n - 2 ^ j) + 1 := by
          unfold bord
          rw [e1]
          generalize inn x (n - 2 ^ j) = d at *
          have hd : (2 ^ j + x) / 2 ^ d = 2 ^ (j - d) + x / 2 ^ d := by
            rw [show 2 ^ j = 2 ^ d * 2 ^ (j - d) by rw [← Nat.pow_add]; congr 1; omega, Nat.mul_add_div (Nat.two_pow_pos d)]
          rw [hd]
          exact pop_top (by omega) ((Nat.div_lt_iff_lt_mul (Nat.two_pow_pos d)).2 (by rw [← Nat.pow_add, show j - d + d = j by omega]; omega))
        have e3 : lowbits (inn x (n - 2 ^ j)) (2 ^ j + x) = lowbits (inn x (n - 2 ^ j)) x := by
          generalize inn x (n - 2 ^ j) = d at *
          have h3 := lowbits_mod d x (2 ^ (j - d))
          rw [← Nat.pow_add, show d + (j - d) = j by omega, Nat.add_comm x] at h3
          exact h3
        rw [dirs_r h2 (by omega), hsp, Nat.add_sub_cancel_left, ih (n - 2 ^ j) (by omega) x (by omega) (by omega), e1, e2, e3, List.append_assoc]
        rw [show ∀ b : Nat, List.replicate (b + 1) true = List.replicate b true ++ [true] from fun b => List.replicate_succ']
    · have hn1 : n = 1 := by omega
      have hi0 : i = 0 := by omega
      subst hn1 hi0
      rw [dirs_one]
      have e1 : inn 0 1 = 0 := by unfold inn; simp [blen_zero]
      have e2 : bord 0 1 = 0 := by unfold bord; rw [e1, Nat.zero_div]; exact pop_zero 64
      rw [e1, e2]; rfl
theorem dirs_len (i n : Nat) (hi : i < n) (hn : n < 18446744073709551616) : (dirs i n).length = inn i n + bord i n := by
  rw [dirs_eq n i hi hn]; simp [lowbits_length]
end Go.Proofs.YtpdmmmcelkinjaaFmt.Pl
/- Path and proof of a list of leaves: no program in sight. -/
open Go
namespace Go.Proofs.YtpdmmmcelkinjaaFmt.Pl
/-- The hashes of ranges of leaves. -/
def hl (h : HF) (D : List (List Nat)) (R : List (Nat × Nat)) : List (List Nat) := R.map fun p => mr h (atL D) p.1 p.2
theorem hl_append (h : HF) (D : List (List Nat)) (R S : List (Nat × Nat)) : hl h D (R ++ S) = hl h D R ++ hl h D S := by simp [hl]
theorem hl_length (h : HF) (D : List (List Nat)) (R : List (Nat × Nat)) : (hl h D R).length = R.length := by simp [hl]
theorem hl_take (h : HF) (D : List (List Nat)) (R : List (Nat × Nat)) (k : Nat) (hR : ∀ p ∈ R, p.1 + p.2 ≤ k ∧ 1 ≤ p.2) : hl h (D.take k) R = hl h D R := by
  refine List.map_congr_left fun p hp => ?_
  obtain ⟨h1, h2⟩ := hR p hp
  refine mr_congr h _ _ _ _ h2 fun i _ hi => ?_
  unfold atL
  rw [List.getD_eq_getElem?_getD, List.getD_eq_getElem?_getD, List.getElem?_take_of_lt (by omega)]
def sh (c : Nat) (p : Nat × Nat) : Nat × Nat := (p.1 + c, p.2)
theorem hl_drop (h : HF) (D : List (List Nat)) (R : List (Nat × Nat)) (k : Nat) (hR : ∀ p ∈ R, 1 ≤ p.2) : hl h (D.drop k) R = hl h D (R.map (sh k)) := by
  unfold hl
  rw [List.map_map]
  refine List.map_congr_left fun p hp => ?_
  show mr h (atL (D.drop k)) p.1 p.2 = mr h (atL D) (p.1 + k) p.2
  rw [← mr_shift _ _ _ _ _ (hR p hp)]
  refine mr_congr h _ _ _ _ (hR p hp) fun i _ hi => ?_
  unfold atL
  rw [List.getD_eq_getElem?_getD, List.getD_eq_getElem?_getD, List.getElem?_drop, Nat.add_comm]
theorem sides_shift (c idx n : Nat) : ∀ a, sides (a + c) idx n = (sides a idx n).map (sh c) := by
  induction n using Nat.strongRecOn generalizing idx with
  | ind n ih =>
    intro a
    by_cases hn : 2 ≤ n
    · obtain ⟨s1, s2⟩ := split_spec hn
      have s3 := split_pos n
      by_cases hi : idx < split n
      · rw [sides_l hn hi, sides_l hn hi, ih _ s1, List.map_append]
        simp [sh]; omega
      · rw [sides_r hn hi, sides_r hn hi, show a + c + split n = a + split n + c by omega, ih _ (by omega), List.map_append]
        simp [sh]
    · have h0 : ∀ b, sides b idx n = [] := fun b => by rw [sides, dif_pos (by omega)]
      rw [h0, h0]; rfl
theorem sides_in (idx n : Nat) : ∀ a, idx < n → ∀ p ∈ sides a idx n, a ≤ p.1 ∧ p.1 + p.2 ≤ a + n ∧ 1 ≤ p.2 := by
  induction n using Nat.strongRecOn generalizing idx with
  | ind n ih =>
    intro a hl p hp
    by_cases hn : 2 ≤ n
    · obtain ⟨s1, s2⟩ := split_spec hn
      have s3 := split_pos n
      by_cases hi : idx < split n
      · rw [sides_l hn hi] at hp
        rcases List.mem_append.1 hp with h | h
        · have := ih _ s1 idx a hi p h; omega
        · simp at h; subst h; simp; omega
      · rw [sides_r hn hi] at hp
        rcases List.mem_append.1 hp with h | h
        · have := ih _ (by omega) (idx - split n) (a + split n) (by omega) p h; omega
        · simp at h; subst h; simp; omega
    · rw [sides, dif_pos (by omega)] at hp; simp at hp
/-- What spec.Path gives. -/
def pathL (h : HF) (idx : Nat) (D : List (List Nat)) : List (List Nat) := hl h D (sides 0 idx D.length)
theorem pathL_one (h : HF) (idx : Nat) (D : List (List Nat)) (hn : D.length = 1) : pathL h idx D = [] := by unfold pathL; rw [hn, sides_one]; rfl
theorem pathL_l (h : HF) (idx : Nat) (D : List (List Nat)) (hn : 2 ≤ D.length) (hi : idx < split D.length) : pathL h idx D = pathL h idx (D.take (split D.length)) ++ [mth h (D.drop (split D.length))] := by
  obtain ⟨s1, s2⟩ := split_spec hn
  unfold pathL
  rw [sides_l hn hi, hl_append, mth_drop h D _ s1, show (D.take (split D.length)).length = split D.length by simp; omega, hl_take h D _ _ (fun p hp => by have := sides_in idx _ 0 hi p hp; omega), Nat.zero_add]
  rfl
theorem pathL_r (h : HF) (idx : Nat) (D : List (List Nat)) (hn : 2 ≤ D.length) (hl : idx < D.length) (hi : ¬ idx < split D.length) : pathL h idx D = pathL h (idx - split D.length) (D.drop (split D.length)) ++ [mth h (D.take (split D.length))] := by
  obtain ⟨s1, s2⟩ := split_spec hn
  have s3 := split_pos D.length
  unfold pathL
  rw [sides_r hn hi, hl_append, mth_take h D _ s3 (by omega), show (D.drop (split D.length)).length = D.length - split D.length by simp, hl_drop h D _ _ (fun p hp => (sides_in _ _ 0 (by omega) p hp).2.2), ← sides_shift, Nat.zero_add]
  rfl
theorem pathL_length (h : HF) (idx : Nat) (D : List (List Nat)) : (pathL h idx D).length = (dirs idx D.length).length := by unfold pathL; rw [hl_length, sides_length]
theorem cproof_shift (c m n : Nat) : ∀ (a : Nat) (whole : Bool), m ≤ n → 1 ≤ m → cproof (a + c) m n whole = (cproof a m n whole).map (sh c) := by
  induction n using Nat.strongRecOn generalizing m with
  | ind n ih =>
    intro a whole hle h1
    by_cases hm : m = n
    · subst hm; rw [cproof_eq, cproof_eq]; cases whole <;> simp [sh]
    · have hn : 2 ≤ n := by omega
      obtain ⟨s1, s2⟩ := split_spec hn
      have s3 := split_pos n
      by_cases hi : m ≤ split n
      · rw [cproof_l hm hn hi, cproof_l hm hn hi, ih _ s1 _ _ _ hi h1, List.map_append]
        simp [sh]; omega
      · rw [cproof_r hm hn hi, cproof_r hm hn hi, show a + c + split n = a + split n + c by omega, ih _ (by omega) _ _ _ (by omega) (by omega), List.map_append]
        simp [sh]
theorem cproof_in (m n : Nat) : ∀ (a : Nat) (whole : Bool), m ≤ n → 1 ≤ m → ∀ p ∈ cproof a m n whole, a ≤ p.1 ∧ p.1 + p.2 ≤ a + n ∧ 1 ≤ p.2 := by
  induction n using Nat.strongRecOn generalizing m with
  | ind n ih =>
    intro a whole hle h1 p hp
    by_cases hm : m = n
    · subst hm
      rw [cproof_eq] at hp
      cases whole <;> simp at hp
      subst hp; simp; omega
    · have hn : 2 ≤ n := by omega
      obtain ⟨s1, s2⟩ := split_spec hn
      have s3 := split_pos n
      by_cases hi : m ≤ split n
      · rw [cproof_l hm hn hi] at hp
        rcases List.mem_append.1 hp with h | h
        · have := ih _ s1 m a whole hi h1 p h; omega
        · simp at h; subst h; simp; omega
      · rw [cproof_r hm hn hi] at hp
        rcases List.mem_append.1 hp with h | h
        · have := ih _ (by omega) (m - split n) (a + split n) false (by omega) (by omega) p h; omega
        · simp at h; subst h; simp; omega
/-- What spec.subproof gives. -/
def proofL (h : HF) (m : Nat) (D : List (List Nat)) (whole : Bool) : List (List Nat) := hl h D (cproof 0 m D.length whole)
theorem proofL_whole (h : HF) (D : List (List Nat)) : proofL h D.length D true = [] := by unfold proofL; rw [cproof_eq]; rfl
theorem proofL_part (h : HF) (D : List (List Nat)) : proofL h D.length D false = [mth h D] := by unfold proofL; rw [cproof_eq]; rfl
theorem proofL_l (h : HF) (m : Nat) (D : List (List Nat)) (whole : Bool) (hm : m ≠ D.length) (hn : 2 ≤ D.length) (h1 : 1 ≤ m) (hi : m ≤ split D.length) : proofL h m D whole = proofL h m (D.take (split D.length)) whole ++ [mth h (D.drop (split D.length))] := by
  obtain ⟨s1, s2⟩ := split_spec hn
  unfold proofL
  rw [cproof_l hm hn hi, hl_append, mth_drop h D _ s1, show (D.take (split D.length)).length = split D.length by simp; omega, hl_take h D _ _ (fun p hp => by have := cproof_in m _ 0 whole hi h1 p hp; omega), Nat.zero_add]
  rfl
theorem proofL_r (h : HF) (m : Nat) (D : List (List Nat)) (whole : Bool) (hm : m < D.length) (hn : 2 ≤ D.length) (hi : ¬ m ≤ split D.length) : proofL h m D whole = proofL h (m - split D.length) (D.drop (split D.length)) false ++ [mth h (D.take (split D.length))] := by
  obtain ⟨s1, s2⟩ := split_spec hn
  have s3 := split_pos D.length
  unfold proofL
  rw [cproof_r (by omega) hn hi, hl_append, mth_take h D _ s3 (by omega), show (D.drop (split D.length)).length = D.length - split D.length by simp, hl_drop h D _ _ (fun p hp => (cproof_in _ _ 0 false (by omega) (by omega) p hp).2.2), ← cproof_shift _ _ _ _ _ (by omega) (by omega), Nat.zero_add]
  rfl
end Go.Proofs.YtpdmmmcelkinjaaFmt.Pl
/- What Rehash does to a list: no program in sight. -/
open Go
namespace Go.Proofs.YtpdmmmcelkinjaaFmt.Pl
/-- The hashes from b on, folded one by one. -/
def fd (h : HF) (H : List (List Nat)) (b : Nat) : Nat → List Nat
  | 0 => H.getD b []
  | j + 1 => h.hc (H.getD (b + 1 + j) []) (fd h H b j)
/-- What Rehash gives. -/
def reh (h : HF) (H : List (List Nat)) (b e : Nat) : List (List Nat) := if b < e then H.take b ++ [fd h H b (e - b - 1)] ++ H.drop e else H
structure RI (h : HF) (H : List (List Nat)) (b e i c : Nat) (M : List (List Nat)) : Prop where
  le : c ≤ i
  len : M.length = H.length
  take : M.take c = (reh h H b e).take c
  drop : M.drop i = H.drop i
  link : (b < e ∧ ((i ≤ b ∧ c = i) ∨ (e ≤ i ∧ c + (e - b) = i + 1))) ∨ (¬ b < e ∧ c = i)
theorem RI.start (h : HF) (H : List (List Nat)) (b e : Nat) : RI h H b e 0 0 H := ⟨Nat.le_refl _, rfl, by simp, rfl, by
  by_cases hb : b < e
  · exact .inl ⟨hb, .inl ⟨Nat.zero_le _, rfl⟩⟩
  · exact .inr ⟨hb, rfl⟩⟩
theorem RI.at_ {h : HF} {H M : List (List Nat)} {b e i c : Nat} (r : RI h H b e i c M) : ∀ k, i ≤ k → M[k]? = H[k]? := fun k hk => by
  have h1 : (M.drop i)[k - i]? = (H.drop i)[k - i]? := by rw [r.drop]
  rw [List.getElem?_drop, List.getElem?_drop] at h1
  rwa [show i + (k - i) = k by omega] at h1
theorem set_take {α : Type} (M : List α) (c : Nat) (x : α) (hc : c < M.length) : (M.set c x).take (c + 1) = M.take c ++ [x] := by
  rw [List.take_set, List.take_add_one, List.getElem?_eq_getElem hc]
  show (M.take c ++ [M[c]]).set c x = _
  have h0 : c - (M.take c).length = 0 := by simp; omega
  rw [List.set_append_right _ _ (by simp; omega), h0]; rfl
theorem set_drop {α : Type} (M : List α) (c i : Nat) (x : α) (hc : c < i) : (M.set c x).drop i = M.drop i := by
  rw [List.drop_set_of_lt hc]
theorem RI.step {h : HF} {H M : List (List Nat)} {b e i c : Nat} (r : RI h H b e i c M) (hi : i < H.length) (hn : ¬ (b ≤ i ∧ i < e)) : RI h H b e (i + 1) (c + 1) (M.set c (H.getD i [])) := by
  have hl := r.len
  have hle := r.le
  have hx : (reh h H b e)[c]? = some (H.getD i []) := by
    have hg : H[i]? = some (H.getD i []) := by rw [List.getD_eq_getElem?_getD, List.getElem?_eq_getElem hi]; rfl
    rw [← hg]
    rcases r.link with ⟨hb, ⟨h1, rfl⟩ | ⟨h1, h2⟩⟩ | ⟨hb, rfl⟩
    · unfold reh
      rw [if_pos hb, List.append_assoc, List.getElem?_append_left (by simp; omega), List.getElem?_take_of_lt (by omega)]
    · unfold reh
      rw [if_pos hb, List.getElem?_append_right (by simp; omega), List.getElem?_drop]
      congr 1
      simp; omega
    · unfold reh
      rw [if_neg hb]
  refine ⟨by omega, by simp [hl], ?_, ?_, ?_⟩
  · rw [set_take M c _ (by omega), r.take, List.take_add_one, hx]; rfl
  · rw [set_drop M c (i + 1) _ (by omega), ← List.drop_drop, r.drop, List.drop_drop]
  · rcases r.link with ⟨hb, ⟨h1, h2⟩ | ⟨h1, h2⟩⟩ | ⟨hb, h2⟩
    · exact .inl ⟨hb, .inl ⟨by omega, by omega⟩⟩
    · exact .inl ⟨hb, .inr ⟨by omega, by omega⟩⟩
    · exact .inr ⟨hb, by omega⟩
theorem RI.fold {h : HF} {H M : List (List Nat)} {b e i c : Nat} (r : RI h H b e i c M) (he : e ≤ H.length) (h1 : b ≤ i) (h2 : i < e) : i = b ∧ c = b ∧ RI h H b e e (c + 1) (M.set c (fd h H b (e - b - 1))) := by
  have hl := r.len
  obtain ⟨hb, rfl, rfl⟩ : b < e ∧ i = b ∧ c = b := by
    rcases r.link with ⟨hb, ⟨_, _⟩ | ⟨_, _⟩⟩ | ⟨hb, _⟩
    · exact ⟨hb, by omega, by omega⟩
    · omega
    · omega
  refine ⟨rfl, rfl, by omega, by simp [hl], ?_, ?_, .inl ⟨hb, .inr ⟨Nat.le_refl _, by omega⟩⟩⟩
  · rw [set_take M c _ (by omega), r.take, List.take_add_one]
    unfold reh
    rw [if_pos hb]
    congr 1
    rw [List.append_assoc, List.getElem?_append_right (by simp; omega)]
    simp
    have : min c H.length = c := by omega
    rw [this]; simp
  · rw [set_drop M c e _ (by omega)]
    have := r.drop
    have h3 : (M.drop c).drop (e - c) = (H.drop c).drop (e - c) := by rw [this]
    rw [List.drop_drop, List.drop_drop] at h3
    rwa [show c + (e - c) = e by omega] at h3
theorem RI.end_ {h : HF} {H M : List (List Nat)} {b e c : Nat} (r : RI h H b e H.length c M) (he : e ≤ H.length) : M.take c = reh h H b e ∧ c = (reh h H b e).length := by
  have hc : c = (reh h H b e).length := by
    rcases r.link with ⟨hb, ⟨h1, h2⟩ | ⟨h1, h2⟩⟩ | ⟨hb, h2⟩
    · unfold reh; rw [if_pos hb]; omega
    · unfold reh; rw [if_pos hb]; simp; omega
    · unfold reh; rw [if_neg hb]; exact h2
  exact ⟨by rw [r.take, hc, List.take_length], hc⟩
end Go.Proofs.YtpdmmmcelkinjaaFmt.Pl
