/- Consistency proofs in plain numbers: which way they go, and what the reference tells of one. -/
import Derived.Test.YtobnmgnnidhfkaaFmtMth
import Derived.Test.YtobnmgnnidhfkaaFmtTz
open Go
namespace Go.Proofs.YtobnmgnnidhfkaaFmt.Pl
/-- A chain of hashes upwards, of which only those count that stand at the left. -/
def stepR (h : HF) (s : List Nat) (d : Bool × List Nat) : List Nat := if d.1 then h.hc d.2 s else s
def chainR (h : HF) (s : List Nat) (l : List (Bool × List Nat)) : List Nat := l.foldl (stepR h) s
theorem chainR_snoc (h : HF) (s : List Nat) (l : List (Bool × List Nat)) (d : Bool × List Nat) : chainR h s (l ++ [d]) = stepR h (chainR h s l) d := by simp [chainR]
theorem chainR_append (h : HF) (s : List Nat) (l m : List (Bool × List Nat)) : chainR h s (l ++ m) = chainR h (chainR h s l) m := by simp [chainR]
theorem chainR_inner {h : HF} {s : List Nat} {L : List (List Nat)} (i k : Nat) (hk : k < L.length) : chainR h s ((lowbits (k + 1) i).zip (L.take (k + 1))) =
    if i / 2 ^ k % 2 = 1 then h.hc L[k] (chainR h s ((lowbits k i).zip (L.take k))) else chainR h s ((lowbits k i).zip (L.take k)) := by
  rw [take_snocL L k hk, lowbits_snoc, zip_snoc (by rw [lowbits_length]; simp; omega), chainR_snoc]
  unfold stepR
  by_cases hb : i / 2 ^ k % 2 = 1
  · rw [if_pos hb, if_pos (by simp [hb])]
  · rw [if_neg hb, if_neg (by simp [hb])]
theorem chainR_true (h : HF) : ∀ (L : List (List Nat)) (s : List Nat), chainR h s ((List.replicate L.length true).zip L) = chain h s ((List.replicate L.length true).zip L)
  | [], _ => rfl
  | x :: L, s => by
    simp only [List.length_cons, List.replicate_succ, List.zip_cons_cons]
    have := chainR_true h L (h.hc x s)
    unfold chainR chain at *
    simpa [stepR, step] using this
/-- The ways of a consistency proof, from the first tree's last part on: true where the other tree stands at its left. -/
def cd (m s : Nat) : List Bool :=
  if _hn : s ≤ 1 ∨ s ≤ m then [] else if m ≤ split s then cd m (split s) ++ [false] else cd (m - split s) (s - split s) ++ [true]
termination_by s
decreasing_by
  · exact (split_spec (by omega)).1
  · have := split_pos s; omega
/-- Whether the first tree's last part is the whole of it. -/
def wz (m s : Nat) : Bool :=
  if _hn : s ≤ 1 ∨ s ≤ m then true else if m ≤ split s then wz m (split s) else false
termination_by s
decreasing_by exact (split_spec (by omega)).1
theorem cd_same (m : Nat) : cd m m = [] := by rw [cd]; simp
theorem cd_l {m s : Nat} (h1 : 1 ≤ m) (hm : m < s) (h : m ≤ split s) : cd m s = cd m (split s) ++ [false] := by rw [cd, dif_neg (by omega), if_pos h]
theorem cd_r {m s : Nat} (h1 : 1 ≤ m) (hm : m < s) (h : ¬ m ≤ split s) : cd m s = cd (m - split s) (s - split s) ++ [true] := by rw [cd, dif_neg (by omega), if_neg h]
theorem wz_same (m : Nat) : wz m m = true := by rw [wz]; simp
theorem wz_l {m s : Nat} (h1 : 1 ≤ m) (hm : m < s) (h : m ≤ split s) : wz m s = wz m (split s) := by rw [wz, dif_neg (by omega), if_pos h]
theorem wz_r {m s : Nat} (h1 : 1 ≤ m) (hm : m < s) (h : ¬ m ≤ split s) : wz m s = false := by rw [wz, dif_neg (by omega), if_neg h]
theorem cd_pos {m s : Nat} (h1 : 1 ≤ m) (hm : m < s) : 0 < (cd m s).length := by
  by_cases h : m ≤ split s
  · rw [cd_l h1 hm h]; simp
  · rw [cd_r h1 hm h]; simp
/-- The two roots that a consistency proof tells, and whether the proof has the right length. -/
def rootsOf (h : HF) (r1 : List Nat) : Nat → Nat → Nat → List (List Nat) → Bool → List Nat × List Nat × Bool
  | 0, m, s, _, wh => if m = s then (if wh then (r1, r1, true) else ([], [], false)) else ([], [], false)
  | n + 1, m, s, P, wh => if m = s then (if wh then (r1, r1, false) else if n = 0 then (P.getD 0 [], P.getD 0 [], true) else ([], [], false)) else
      if m ≤ split s then ((rootsOf h r1 n m (split s) (P.take n) wh).1, h.hc (rootsOf h r1 n m (split s) (P.take n) wh).2.1 (P.getD n []), (rootsOf h r1 n m (split s) (P.take n) wh).2.2)
      else (h.hc (P.getD n []) (rootsOf h r1 n (m - split s) (s - split s) (P.take n) false).1, h.hc (P.getD n []) (rootsOf h r1 n (m - split s) (s - split s) (P.take n) false).2.1, (rootsOf h r1 n (m - split s) (s - split s) (P.take n) false).2.2)
theorem snocC {P : List (List Nat)} {n : Nat} (hn : P.length = n + 1) : P = P.take n ++ [P.getD n []] := by
  conv => lhs; rw [← List.take_append_drop n P]
  congr 1
  rw [List.drop_eq_getElem_cons (by omega), List.getD_eq_getElem?_getD, List.getElem?_eq_getElem (by omega), List.drop_eq_nil_of_le (by omega)]
  rfl
/-- What the reference tells is what two chains tell. -/
def Told (h : HF) (r1 : List Nat) (n m s : Nat) (P : List (List Nat)) (wh : Bool) : Prop :=
  (wh = true ∧ wz m s = true → (rootsOf h r1 n m s P wh).2.2 = decide (n = (cd m s).length) ∧
    (n = (cd m s).length → (rootsOf h r1 n m s P wh).1 = chainR h r1 ((cd m s).zip P) ∧ (rootsOf h r1 n m s P wh).2.1 = chain h r1 ((cd m s).zip P))) ∧
  (¬ (wh = true ∧ wz m s = true) → (rootsOf h r1 n m s P wh).2.2 = decide (n = (cd m s).length + 1) ∧
    (n = (cd m s).length + 1 → (rootsOf h r1 n m s P wh).1 = chainR h (P.getD 0 []) ((cd m s).zip P.tail) ∧ (rootsOf h r1 n m s P wh).2.1 = chain h (P.getD 0 []) ((cd m s).zip P.tail)))
theorem tail_snoc {P : List (List Nat)} {n : Nat} (hP : P.length = n + 1) (h1 : 1 ≤ n) : P.tail = (P.take n).tail ++ [P.getD n []] ∧ P.getD 0 [] = (P.take n).getD 0 [] := by
  have hs := snocC hP
  obtain ⟨x, T, hx⟩ : ∃ x T, P.take n = x :: T := by
    cases ht : P.take n with
    | nil => have : (P.take n).length = n := by simp; omega
             rw [ht] at this; simp at this; omega
    | cons x T => exact ⟨x, T, rfl⟩
  rw [hx] at hs ⊢
  constructor
  · conv => lhs; rw [hs]
    rfl
  · conv => lhs; rw [hs]
    rfl
theorem rootsOf_spec (h : HF) (r1 : List Nat) : ∀ (n m s : Nat) (P : List (List Nat)) (wh : Bool), P.length = n → 1 ≤ m → m ≤ s → Told h r1 n m s P wh := by
  intro n
  induction n with
  | zero =>
    intro m s P wh hP h1 hm
    by_cases he : m = s
    · subst he
      unfold Told
      rw [rootsOf, if_pos rfl, cd_same, wz_same]
      cases wh
      · exact ⟨fun h => by simp at h, fun _ => ⟨by simp, fun h => by simp at h⟩⟩
      · exact ⟨fun _ => ⟨by simp, fun _ => ⟨rfl, rfl⟩⟩, fun h => by simp at h⟩
    · have hp := cd_pos h1 (show m < s by omega)
      unfold Told
      rw [rootsOf, if_neg he]
      exact ⟨fun _ => ⟨by simp; intro h; rw [h] at hp; simp at hp, fun h => by omega⟩, fun _ => ⟨by simp, fun h => by omega⟩⟩
  | succ n ih =>
    intro m s P wh hP h1 hm
    have hl : (P.take n).length = n := by simp; omega
    by_cases he : m = s
    · subst he
      unfold Told
      rw [rootsOf, if_pos rfl, cd_same, wz_same]
      cases wh
      · refine ⟨fun h => by simp at h, fun _ => ?_⟩
        by_cases h0 : n = 0
        · subst h0
          exact ⟨by simp, fun _ => ⟨rfl, rfl⟩⟩
        · exact ⟨by simp [h0], fun h => by simp at h; omega⟩
      · exact ⟨fun _ => ⟨by simp, fun h => by simp at h⟩, fun h => by simp at h⟩
    · have hlt : m < s := by omega
      obtain ⟨s1, s2⟩ := split_spec (show 2 ≤ s by omega)
      have s3 := split_pos s
      by_cases hk : m ≤ split s
      · obtain ⟨a, b⟩ := ih m (split s) (P.take n) wh hl h1 hk
        unfold Told
        rw [rootsOf, if_neg he, if_pos hk, cd_l h1 hlt hk, wz_l h1 hlt hk]
        refine ⟨fun hw => ?_, fun hw => ?_⟩
        · obtain ⟨a1, a2⟩ := a hw
          refine ⟨by rw [a1]; simp, fun hn => ?_⟩
          have hn' : n = (cd m (split s)).length := by simpa using hn
          obtain ⟨c1, c2⟩ := a2 hn'
          rw [c1, c2]
          conv => rhs; rw [snocC hP]
          conv => lhs; rhs; rw [snocC hP]
          rw [zip_snoc (by rw [hl]; exact hn'.symm), chainR_snoc, chain_snoc]
          exact ⟨rfl, by rw [← snocC hP]; rfl⟩
        · obtain ⟨a1, a2⟩ := b hw
          refine ⟨by rw [a1]; simp, fun hn => ?_⟩
          have hn' : n = (cd m (split s)).length + 1 := by simpa using hn
          obtain ⟨c1, c2⟩ := a2 hn'
          obtain ⟨t1, t2⟩ := tail_snoc hP (by omega)
          have htl : (P.take n).tail.length = n - 1 := by simp; omega
          rw [c1, c2, t1, zip_snoc (by rw [htl]; omega), chainR_snoc, chain_snoc, t2]
          exact ⟨rfl, rfl⟩
      · obtain ⟨_, b⟩ := ih (m - split s) (s - split s) (P.take n) false hl (by omega) (by omega)
        unfold Told
        rw [rootsOf, if_neg he, if_neg hk, cd_r h1 hlt hk, wz_r h1 hlt hk]
        refine ⟨fun hw => by simp at hw, fun _ => ?_⟩
        obtain ⟨a1, a2⟩ := b (by simp)
        refine ⟨by rw [a1]; simp, fun hn => ?_⟩
        have hn' : n = (cd (m - split s) (s - split s)).length + 1 := by simpa using hn
        obtain ⟨c1, c2⟩ := a2 hn'
        obtain ⟨t1, t2⟩ := tail_snoc hP (by omega)
        have htl : (P.take n).tail.length = n - 1 := by simp; omega
        rw [c1, c2, t1, zip_snoc (by rw [htl]; omega), chainR_snoc, chain_snoc, t2]
        exact ⟨rfl, rfl⟩
/-! ### The ways by the program's own sums -/
theorem cd_dirs (c : Nat) : ∀ (s m q : Nat), 1 ≤ m → m < s → m = 2 ^ c * (2 * q + 1) → c < (dirs (m - 1) s).length ∧ cd m s = (dirs (m - 1) s).drop c ∧ wz m s = decide (q = 0) := by
  intro s
  induction s using Nat.strongRecOn with
  | ind s ih =>
    intro m q h1 hm hq
    have h2 : 2 ≤ s := by omega
    obtain ⟨s1, s2⟩ := split_spec h2
    have s3 := split_pos s
    have hsp : split s = 2 ^ slog s := rfl
    have hpc := Nat.two_pow_pos c
    by_cases hk : m ≤ split s
    · rw [cd_l h1 hm hk, wz_l h1 hm hk, dirs_l h2 (by omega)]
      rcases Nat.lt_or_ge m (split s) with hlt | hge
      · obtain ⟨a, b, d⟩ := ih (split s) s1 m q h1 hlt hq
        refine ⟨by simp; omega, ?_, d⟩
        rw [b, List.drop_append_of_le_length (by omega)]
      · obtain rfl : m = split s := by omega
        have hj : c = slog s ∧ q = 0 := by
          rw [hsp] at hq
          rcases Nat.lt_trichotomy c (slog s) with h | h | h
          · exfalso
            have e : 2 ^ slog s = 2 ^ c * (2 * 2 ^ (slog s - c - 1)) := by
              rw [← Nat.pow_succ', ← Nat.pow_add]; congr 1; omega
            rw [e] at hq
            have := Nat.eq_of_mul_eq_mul_left hpc hq
            omega
          · refine ⟨h, ?_⟩
            rw [h] at hq
            have hp := Nat.two_pow_pos (slog s)
            have : 1 * 2 ^ slog s = (2 * q + 1) * 2 ^ slog s := by rw [Nat.one_mul, Nat.mul_comm]; exact hq
            have := Nat.eq_of_mul_eq_mul_right hp this
            omega
          · exfalso
            have h3 := Nat.pow_le_pow_right (n := 2) (by decide) h
            rw [Nat.pow_succ] at h3
            have h4 : 2 ^ c * 1 ≤ 2 ^ c * (2 * q + 1) := Nat.mul_le_mul_left _ (by omega)
            have := Nat.two_pow_pos (slog s)
            omega
        obtain ⟨rfl, rfl⟩ := hj
        rw [cd_same, wz_same, hsp, dirs_pow _ _ (by omega)]
        have hl := lowbits_length (slog s) (2 ^ slog s - 1)
        exact ⟨by simp [hl], by rw [List.drop_append_of_le_length (by omega), List.drop_of_length_le (by omega)], by simp⟩
    · rw [cd_r h1 hm hk, wz_r h1 hm hk, dirs_r h2 (by omega)]
      have hcl : c < slog s := by
        rcases Nat.lt_or_ge c (slog s) with h | h
        · exact h
        · exfalso
          have hle := Nat.pow_le_pow_right (n := 2) (by decide) h
          have : m < 2 * 2 ^ slog s := by omega
          have hq0 : q = 0 := by
            rcases Nat.eq_zero_or_pos q with h0 | h0
            · exact h0
            · have : 2 ^ c * 3 ≤ 2 ^ c * (2 * q + 1) := Nat.mul_le_mul_left _ (by omega)
              omega
          subst hq0
          simp at hq
          rcases Nat.eq_or_lt_of_le h with h0 | h0
          · rw [hsp, h0] at hk; omega
          · have := Nat.pow_le_pow_right (n := 2) (by decide) h0
            rw [Nat.pow_succ] at this
            omega
      have hr : m - split s = 2 ^ c * (2 * (q - 2 ^ (slog s - c - 1)) + 1) ∧ 2 ^ (slog s - c - 1) ≤ q := by
        have e : 2 ^ slog s = 2 ^ c * (2 * 2 ^ (slog s - c - 1)) := by
          rw [← Nat.pow_succ', ← Nat.pow_add]; congr 1; omega
        have hle : 2 ^ (slog s - c - 1) ≤ q := by
          rcases Nat.lt_or_ge q (2 ^ (slog s - c - 1)) with h | h
          · exfalso
            have : 2 ^ c * (2 * q + 1) ≤ 2 ^ c * (2 * 2 ^ (slog s - c - 1)) := Nat.mul_le_mul_left _ (by omega)
            rw [← e] at this
            omega
          · exact h
        refine ⟨?_, hle⟩
        rw [hsp, e, hq, ← Nat.mul_sub]
        congr 1
        omega
      obtain ⟨a, b, _⟩ := ih (s - split s) (by omega) (m - split s) (q - 2 ^ (slog s - c - 1)) (by omega) (by omega) hr.1
      rw [show m - split s - 1 = m - 1 - split s by omega] at a b
      refine ⟨by simp; omega, ?_, ?_⟩
      · rw [b, List.drop_append_of_le_length (by omega)]
      · have := Nat.two_pow_pos (slog s - c - 1)
        have : ¬ q = 0 := by omega
        simp [this]
theorem xor_zero {x y : Nat} (h : x ^^^ y = 0) : x = y := by
  apply Nat.eq_of_testBit_eq
  intro i
  have := congrArg (fun z => z.testBit i) h
  simp only [Nat.testBit_xor, Nat.zero_testBit] at this
  cases hx : x.testBit i <;> cases hy : y.testBit i <;> simp_all
theorem cd_code {m s c q : Nat} (h1 : 1 ≤ m) (hm : m < s) (hs : s < 18446744073709551616) (hq : m = 2 ^ c * (2 * q + 1)) : c < inn (m - 1) s ∧ cd m s = lowbits (inn (m - 1) s - c) ((m - 1) / 2 ^ c) ++ List.replicate (bord (m - 1) s) true := by
  have hp := Nat.two_pow_pos c
  have hlt : c < inn (m - 1) s := by
    unfold inn
    apply blen_gt
    have d1 : (m - 1) / 2 ^ c = 2 * q := by
      apply Nat.div_eq_of_lt_le
      · rw [Nat.mul_comm]; have : 2 ^ c * (2 * q) + 2 ^ c = m := by rw [hq, Nat.mul_add, Nat.mul_one]
        omega
      · rw [Nat.add_mul, Nat.one_mul, Nat.mul_comm (2 * q)]; have : 2 ^ c * (2 * q) + 2 ^ c = m := by rw [hq, Nat.mul_add, Nat.mul_one]
        omega
    have d2 : 2 * q + 1 ≤ (s - 1) / 2 ^ c := (Nat.le_div_iff_mul_le hp).2 (by rw [Nat.mul_comm, ← hq]; omega)
    rcases Nat.lt_or_ge ((m - 1) ^^^ (s - 1)) (2 ^ c) with h | h
    · exfalso
      have e : ((m - 1) ^^^ (s - 1)) >>> c = 0 := by rw [Nat.shiftRight_eq_div_pow]; exact Nat.div_eq_of_lt h
      rw [Nat.shiftRight_xor_distrib, Nat.shiftRight_eq_div_pow, Nat.shiftRight_eq_div_pow, d1] at e
      have := xor_zero e
      omega
    · exact h
  refine ⟨hlt, ?_⟩
  obtain ⟨_, e, _⟩ := cd_dirs c s m q h1 hm hq
  rw [e, dirs_eq s (m - 1) (by omega) hs]
  conv => lhs; rw [show inn (m - 1) s = c + (inn (m - 1) s - c) by omega, lowbits_add]
  rw [List.append_assoc, List.drop_left' (lowbits_length _ _)]
theorem split_take {m n : Nat} (h1 : split n < m) (h2 : m ≤ n) : split m = split n := by
  have h := (split_spec (n := n) (by have := split_pos n; omega)).2
  exact split_eq h1 (by unfold split at h; omega)
/-- The proof of the reference tells the two roots. -/
theorem told_proof (h : HF) : ∀ (n m : Nat) (D : List (List Nat)) (r1 : List Nat) (wh : Bool), D.length = n → 1 ≤ m → m ≤ n → (wh = true → r1 = mth h (D.take m)) → rootsOf h r1 (proofL h m D wh).length m n (proofL h m D wh) wh = (mth h (D.take m), mth h D, true) := by
  intro n
  induction n using Nat.strongRecOn with
  | ind n ih =>
    intro m D r1 wh hn h1 hm hr
    by_cases he : m = n
    · subst he
      subst hn
      cases wh
      · rw [proofL_part]
        simp only [List.length_singleton]
        rw [rootsOf, if_pos rfl, List.take_length]
        rfl
      · rw [proofL_whole]
        simp only [List.length_nil]
        rw [rootsOf, if_pos rfl, if_pos rfl, hr rfl, List.take_length]
    · have h2 : 2 ≤ n := by omega
      obtain ⟨s1, s2⟩ := split_spec h2
      have s3 := split_pos n
      have hms := mth_split h D (by omega)
      by_cases hk : m ≤ split n
      · have e := proofL_l h m D wh (by omega) (by omega) h1 (by rw [hn]; exact hk)
        rw [hn] at e hms
        have hd := ih (split n) s1 m (D.take (split n)) r1 wh (by simp; omega) h1 hk (fun hw => by rw [List.take_take, Nat.min_eq_left hk]; exact hr hw)
        rw [e]
        generalize proofL h m (D.take (split n)) wh = P at *
        rw [List.length_append, List.length_singleton, rootsOf, if_neg he, if_pos hk]
        have e1 : (P ++ [mth h (D.drop (split n))]).take P.length = P := List.take_left' rfl
        have e2 : (P ++ [mth h (D.drop (split n))]).getD P.length [] = mth h (D.drop (split n)) := by simp
        rw [e1, e2, hd, hms, List.take_take, Nat.min_eq_left hk]
      · have e := proofL_r h m D wh (by omega) (by omega) (by rw [hn]; exact hk)
        rw [hn] at e hms
        have hd := ih (n - split n) (by omega) (m - split n) (D.drop (split n)) r1 false (by simp; omega) (by omega) (by omega) (fun hw => by simp at hw)
        rw [e]
        generalize proofL h (m - split n) (D.drop (split n)) false = P at *
        rw [List.length_append, List.length_singleton, rootsOf, if_neg he, if_neg hk]
        have e1 : (P ++ [mth h (D.take (split n))]).take P.length = P := List.take_left' rfl
        have e2 : (P ++ [mth h (D.take (split n))]).getD P.length [] = mth h (D.take (split n)) := by simp
        have hml : (D.take m).length = m := by simp; omega
        have hmt := mth_split h (D.take m) (by omega)
        rw [hml, split_take (by omega) hm, List.take_take, Nat.min_eq_left (by omega), List.drop_take] at hmt
        rw [e1, e2, hd, hms, hmt]
end Go.Proofs.YtobnmgnnidhfkaaFmt.Pl
