/- Trees and proofs by their definition, in plain lists: no program in sight. -/
import Derived.Test.YtpdmmmcelkinjaaFmtPlainH
import Derived.Test.YtpdmmmcelkinjaaFmtPlain2
open Go
namespace Go.Proofs.YtpdmmmcelkinjaaFmt.Pl

/-! ### The greatest power of two below a number -/
def slog (n : Nat) : Nat := bitLen (n - 1) - 1
def split (n : Nat) : Nat := 2 ^ slog n
theorem slog_eq {n k : Nat} (h1 : 2 ^ k < n) (h2 : n ≤ 2 ^ (k + 1)) : slog n = k := by
  have a := blen_le (n := n - 1) (k := k + 1) (by omega)
  have b := blen_gt (n := n - 1) (k := k) (by omega)
  unfold slog; omega
theorem split_spec {n : Nat} (h : 2 ≤ n) : split n < n ∧ n ≤ 2 * split n := by
  obtain ⟨_, h2, h3⟩ := top_bit (n - 1) (by omega)
  have hp := blen_pos (n := n - 1) (by omega)
  have e : 2 ^ bitLen (n - 1) = 2 * 2 ^ (bitLen (n - 1) - 1) := by
    rw [show bitLen (n - 1) = (bitLen (n - 1) - 1) + 1 by omega, Nat.pow_succ, Nat.mul_comm]; simp
  unfold split slog
  omega
theorem split_pos (n : Nat) : 0 < split n := Nat.two_pow_pos _
theorem split_eq {n k : Nat} (h1 : 2 ^ k < n) (h2 : n ≤ 2 ^ (k + 1)) : split n = 2 ^ k := by unfold split; rw [slog_eq h1 h2]
theorem split_pow (k : Nat) : split (2 ^ (k + 1)) = 2 ^ k := split_eq (by have := Nat.two_pow_pos k; rw [Nat.pow_succ]; omega) (Nat.le_refl _)

/-! ### The hash of leaves from a on, n of them -/
def mr (h : HF) (f : Nat → List Nat) (a n : Nat) : List Nat :=
  if _hn : n ≤ 1 then f a else h.hc (mr h f a (split n)) (mr h f (a + split n) (n - split n))
termination_by n
decreasing_by
  · exact (split_spec (by omega)).1
  · have := split_pos n; omega
theorem mr_one (h : HF) (f : Nat → List Nat) (a : Nat) : mr h f a 1 = f a := by rw [mr]; simp
theorem mr_two (h : HF) (f : Nat → List Nat) (a n : Nat) (hn : 2 ≤ n) : mr h f a n = h.hc (mr h f a (split n)) (mr h f (a + split n) (n - split n)) := by
  rw [mr, dif_neg (by omega)]
theorem mr_pow (h : HF) (f : Nat → List Nat) (a k : Nat) : mr h f a (2 ^ (k + 1)) = h.hc (mr h f a (2 ^ k)) (mr h f (a + 2 ^ k) (2 ^ k)) := by
  have := Nat.two_pow_pos k
  rw [mr_two _ _ _ _ (by rw [Nat.pow_succ]; omega), split_pow, show 2 ^ (k + 1) - 2 ^ k = 2 ^ k by rw [Nat.pow_succ]; omega]
theorem mr_congr (h : HF) (f g : Nat → List Nat) (a n : Nat) (h1 : 1 ≤ n) (he : ∀ i, a ≤ i → i < a + n → f i = g i) : mr h f a n = mr h g a n := by
  induction n using Nat.strongRecOn generalizing a with
  | ind n ih =>
    by_cases hn : 2 ≤ n
    · obtain ⟨s1, s2⟩ := split_spec hn
      have s3 := split_pos n
      rw [mr_two _ _ _ _ hn, mr_two _ _ _ _ hn, ih _ s1 _ s3 (fun i h1 h2 => he i h1 (by omega)), ih _ (by omega) _ (by omega) (fun i h1 h2 => he i (by omega) (by omega))]
    · obtain rfl : n = 1 := by omega
      rw [mr_one, mr_one]
      exact he a (Nat.le_refl _) (by omega)
theorem mr_shift (h : HF) (f : Nat → List Nat) (c a n : Nat) (h1 : 1 ≤ n) : mr h (fun i => f (i + c)) a n = mr h f (a + c) n := by
  induction n using Nat.strongRecOn generalizing a with
  | ind n ih =>
    by_cases hn : 2 ≤ n
    · obtain ⟨s1, s2⟩ := split_spec hn
      have s3 := split_pos n
      rw [mr_two _ _ _ _ hn, mr_two _ _ _ _ hn, ih _ s1 _ s3, ih _ (by omega) _ (by omega), show a + split n + c = a + c + split n by omega]
    · obtain rfl : n = 1 := by omega
      rw [mr_one, mr_one]
theorem mr_bytes (h : HF) (f : Nat → List Nat) (hf : ∀ i, Bytes (f i)) (a n : Nat) : Bytes (mr h f a n) := by
  by_cases hn : 2 ≤ n
  · rw [mr_two _ _ _ _ hn]; exact hc_bytes _ _ _
  · rw [mr, dif_pos (by omega)]; exact hf a
/-- The hash of a list of leaves. -/
def atL (L : List (List Nat)) (i : Nat) : List Nat := L.getD i []
def mth (h : HF) (L : List (List Nat)) : List Nat := mr h (atL L) 0 L.length
theorem mth_part (h : HF) (L : List (List Nat)) (a n : Nat) (h1 : 1 ≤ n) (h2 : a + n ≤ L.length) : mth h ((L.drop a).take n) = mr h (atL L) a n := by
  unfold mth
  have hl : ((L.drop a).take n).length = n := by simp; omega
  rw [hl, mr_congr h _ (fun i => atL L (i + a)) 0 n h1 (fun i _ hi => by
    unfold atL
    rw [List.getD_eq_getElem?_getD, List.getD_eq_getElem?_getD, List.getElem?_take_of_lt (by omega), List.getElem?_drop, Nat.add_comm]), mr_shift _ _ _ _ _ h1, Nat.zero_add]
theorem mth_take (h : HF) (L : List (List Nat)) (n : Nat) (h1 : 1 ≤ n) (h2 : n ≤ L.length) : mth h (L.take n) = mr h (atL L) 0 n := by
  have := mth_part h L 0 n h1 (by omega)
  simpa using this
theorem mth_drop (h : HF) (L : List (List Nat)) (a : Nat) (h2 : a < L.length) : mth h (L.drop a) = mr h (atL L) a (L.length - a) := by
  have := mth_part h L a (L.length - a) (by omega) (by omega)
  rwa [List.take_of_length_le (by simp)] at this
theorem mth_split (h : HF) (L : List (List Nat)) (h2 : 2 ≤ L.length) : mth h L = h.hc (mth h (L.take (split L.length))) (mth h (L.drop (split L.length))) := by
  obtain ⟨s1, s2⟩ := split_spec h2
  have s3 := split_pos L.length
  rw [mth_take h L _ s3 (by omega), mth_drop h L _ s1]
  unfold mth
  rw [mr_two _ _ _ _ h2, Nat.zero_add]
theorem mth_one (h : HF) (x : List Nat) : mth h [x] = x := by
  unfold mth
  exact mr_one _ _ _

/-! ### Which way the path of a leaf goes, from the leaf on: true where the other tree stands at its left -/
def dirs (idx n : Nat) : List Bool :=
  if _hn : n ≤ 1 then [] else if idx < split n then dirs idx (split n) ++ [false] else dirs (idx - split n) (n - split n) ++ [true]
termination_by n
decreasing_by
  · exact (split_spec (by omega)).1
  · have := split_pos n; omega
theorem dirs_one (idx : Nat) : dirs idx 1 = [] := by rw [dirs]; simp
theorem dirs_l {idx n : Nat} (hn : 2 ≤ n) (h : idx < split n) : dirs idx n = dirs idx (split n) ++ [false] := by rw [dirs, dif_neg (by omega), if_pos h]
theorem dirs_r {idx n : Nat} (hn : 2 ≤ n) (h : ¬ idx < split n) : dirs idx n = dirs (idx - split n) (n - split n) ++ [true] := by rw [dirs, dif_neg (by omega), if_neg h]
/-- The trees beside the path of a leaf: where each begins, and of how many leaves it is. -/
def sides (a idx n : Nat) : List (Nat × Nat) :=
  if _hn : n ≤ 1 then [] else if idx < split n then sides a idx (split n) ++ [(a + split n, n - split n)] else sides (a + split n) (idx - split n) (n - split n) ++ [(a, split n)]
termination_by n
decreasing_by
  · exact (split_spec (by omega)).1
  · have := split_pos n; omega
theorem sides_one (a idx : Nat) : sides a idx 1 = [] := by rw [sides]; simp
theorem sides_l {a idx n : Nat} (hn : 2 ≤ n) (h : idx < split n) : sides a idx n = sides a idx (split n) ++ [(a + split n, n - split n)] := by rw [sides, dif_neg (by omega), if_pos h]
theorem sides_r {a idx n : Nat} (hn : 2 ≤ n) (h : ¬ idx < split n) : sides a idx n = sides (a + split n) (idx - split n) (n - split n) ++ [(a, split n)] := by rw [sides, dif_neg (by omega), if_neg h]

/-- A chain of hashes upwards. -/
def step (h : HF) (s : List Nat) (d : Bool × List Nat) : List Nat := if d.1 then h.hc d.2 s else h.hc s d.2
def chain (h : HF) (s : List Nat) (l : List (Bool × List Nat)) : List Nat := l.foldl (step h) s
theorem chain_snoc (h : HF) (s : List Nat) (l : List (Bool × List Nat)) (d : Bool × List Nat) : chain h s (l ++ [d]) = step h (chain h s l) d := by simp [chain]
theorem chain_append (h : HF) (s : List Nat) (l m : List (Bool × List Nat)) : chain h s (l ++ m) = chain h (chain h s l) m := by simp [chain]
theorem zip_snoc {α β : Type} {l : List α} {m : List β} (he : l.length = m.length) (a : α) (b : β) : (l ++ [a]).zip (m ++ [b]) = l.zip m ++ [(a, b)] := by
  rw [List.zip_append he]; rfl
theorem sides_length (idx n : Nat) : ∀ a, (sides a idx n).length = (dirs idx n).length := by
  induction n using Nat.strongRecOn generalizing idx with
  | ind n ih =>
    intro a
    by_cases hn : 2 ≤ n
    · have s := split_spec hn
      have s3 := split_pos n
      by_cases hi : idx < split n
      · rw [sides_l hn hi, dirs_l hn hi, List.length_append, List.length_append, ih _ s.1]; rfl
      · rw [sides_r hn hi, dirs_r hn hi, List.length_append, List.length_append, ih _ (by omega)]; rfl
    · rw [sides, dif_pos (by omega), dirs, dif_pos (by omega)]; rfl
/-- The proof of a leaf leads to the root. -/
theorem chain_sides (h : HF) (f : Nat → List Nat) (idx n : Nat) : ∀ a, idx < n → chain h (f (a + idx)) ((dirs idx n).zip ((sides a idx n).map fun p => mr h f p.1 p.2)) = mr h f a n := by
  induction n using Nat.strongRecOn generalizing idx with
  | ind n ih =>
    intro a hlt
    by_cases hn : 2 ≤ n
    · have s := split_spec hn
      have s3 := split_pos n
      by_cases hi : idx < split n
      · rw [sides_l hn hi, dirs_l hn hi, List.map_append, List.map_singleton, zip_snoc (by rw [List.length_map, sides_length]), chain_snoc, ih _ s.1 _ _ hi, mr_two _ _ _ _ hn]
        rfl
      · have e : a + idx = a + split n + (idx - split n) := by omega
        rw [sides_r hn hi, dirs_r hn hi, List.map_append, List.map_singleton, zip_snoc (by rw [List.length_map, sides_length]), chain_snoc, e, ih _ (by omega) _ _ (by omega), mr_two _ _ _ _ hn]
        rfl
    · obtain rfl : n = 1 := by omega
      obtain rfl : idx = 0 := by omega
      rw [dirs_one, mr_one]
      rfl

/-! ### The root that a proof tells; the proof from its end on -/
def rootRev (h : HF) (leaf : List Nat) : List (List Nat) → Nat → Nat → List Nat × Bool
  | [], _, n => if n = 1 then (leaf, true) else ([], false)
  | x :: ps, idx, n => if n = 1 then (leaf, false) else
    if idx < split n then (h.hc (rootRev h leaf ps idx (split n)).1 x, (rootRev h leaf ps idx (split n)).2)
    else (h.hc x (rootRev h leaf ps (idx - split n) (n - split n)).1, (rootRev h leaf ps (idx - split n) (n - split n)).2)
theorem rootRev_spec (h : HF) (leaf : List Nat) : ∀ (ps : List (List Nat)) (idx n : Nat), idx < n →
    (rootRev h leaf ps idx n).2 = decide (ps.length = (dirs idx n).length) ∧ (ps.length = (dirs idx n).length → (rootRev h leaf ps idx n).1 = chain h leaf ((dirs idx n).zip ps.reverse))
  | [], idx, n, hlt => by
    by_cases h1 : n = 1
    · subst h1
      rw [rootRev, if_pos rfl, dirs_one]
      exact ⟨rfl, fun _ => rfl⟩
    · rw [rootRev, if_neg h1]
      have hd : (dirs idx n).length ≠ 0 := by
        by_cases hi : idx < split n
        · rw [dirs_l (by omega) hi]; simp
        · rw [dirs_r (by omega) hi]; simp
      exact ⟨by symm; rw [decide_eq_false_iff_not]; exact fun e => hd e.symm, fun e => absurd e.symm hd⟩
  | x :: ps, idx, n, hlt => by
    by_cases h1 : n = 1
    · subst h1
      rw [rootRev, if_pos rfl, dirs_one]
      exact ⟨by simp, fun e => by simp at e⟩
    · have hn : 2 ≤ n := by omega
      have s := split_spec hn
      have s3 := split_pos n
      rw [rootRev, if_neg h1]
      by_cases hi : idx < split n
      · obtain ⟨i1, i2⟩ := rootRev_spec h leaf ps idx (split n) hi
        rw [if_pos hi, dirs_l hn hi]
        refine ⟨by rw [i1]; simp, fun e => ?_⟩
        have e' : ps.length = (dirs idx (split n)).length := by simpa using e
        rw [List.reverse_cons, zip_snoc (by simpa using e'.symm), chain_snoc, i2 e']
        rfl
      · obtain ⟨i1, i2⟩ := rootRev_spec h leaf ps (idx - split n) (n - split n) (by omega)
        rw [if_neg hi, dirs_r hn hi]
        refine ⟨by rw [i1]; simp, fun e => ?_⟩
        have e' : ps.length = (dirs (idx - split n) (n - split n)).length := by simpa using e
        rw [List.reverse_cons, zip_snoc (by simpa using e'.symm), chain_snoc, i2 e']
        rfl
theorem rootRev_bytes (h : HF) (leaf : List Nat) (hl : Bytes leaf) : ∀ (ps : List (List Nat)) (idx n : Nat), Bytes (rootRev h leaf ps idx n).1
  | [], idx, n => by
    rw [rootRev]
    split
    · exact hl
    · intro x hx; cases hx
  | x :: ps, idx, n => by
    rw [rootRev]
    split
    · exact hl
    · split
      · exact hc_bytes _ _ _
      · exact hc_bytes _ _ _
/-! ### The lowest bits of a number, as directions -/
def lowbits : Nat → Nat → List Bool
  | 0, _ => []
  | k + 1, i => (i % 2 == 1) :: lowbits k (i / 2)
theorem lowbits_length : ∀ k i : Nat, (lowbits k i).length = k
  | 0, _ => rfl
  | k + 1, i => by rw [lowbits, List.length_cons, lowbits_length k]
theorem lowbits_snoc : ∀ k i : Nat, lowbits (k + 1) i = lowbits k i ++ [i / 2 ^ k % 2 == 1]
  | 0, i => by simp [lowbits]
  | k + 1, i => by rw [lowbits, lowbits_snoc k, lowbits, List.cons_append, Nat.div_div_eq_div_mul, show 2 * 2 ^ k = 2 ^ (k + 1) by rw [Nat.pow_succ, Nat.mul_comm]]
theorem lowbits_add : ∀ a b i : Nat, lowbits (a + b) i = lowbits a i ++ lowbits b (i / 2 ^ a)
  | 0, b, i => by simp [lowbits]
  | a + 1, b, i => by
    rw [show a + 1 + b = (a + b) + 1 by omega, lowbits, lowbits_add a b, lowbits, List.cons_append, Nat.div_div_eq_div_mul, show 2 * 2 ^ a = 2 ^ (a + 1) by rw [Nat.pow_succ, Nat.mul_comm]]
theorem take_snocL {α : Type} (L : List α) (k : Nat) (h : k < L.length) : L.take (k + 1) = L.take k ++ [L[k]] := by rw [List.take_add_one, List.getElem?_eq_getElem h]; rfl
theorem chain_border {h : HF} {s : List Nat} {L : List (List Nat)} (k : Nat) (hk : k < L.length) : chain h s ((List.replicate (k + 1) true).zip (L.take (k + 1))) = h.hc L[k] (chain h s ((List.replicate k true).zip (L.take k))) := by
  rw [take_snocL L k hk, List.replicate_succ', zip_snoc (by simp; omega), chain_snoc]
  rfl
theorem chain_inner {h : HF} {s : List Nat} {L : List (List Nat)} (i k : Nat) (hk : k < L.length) : chain h s ((lowbits (k + 1) i).zip (L.take (k + 1))) =
    if i / 2 ^ k % 2 = 1 then h.hc L[k] (chain h s ((lowbits k i).zip (L.take k))) else h.hc (chain h s ((lowbits k i).zip (L.take k))) L[k] := by
  rw [take_snocL L k hk, lowbits_snoc, zip_snoc (by rw [lowbits_length]; simp; omega), chain_snoc]
  unfold step
  by_cases hb : i / 2 ^ k % 2 = 1
  · rw [if_pos hb, if_pos (by simp [hb])]
  · rw [if_neg hb, if_neg (by simp [hb])]
end Go.Proofs.YtpdmmmcelkinjaaFmt.Pl
