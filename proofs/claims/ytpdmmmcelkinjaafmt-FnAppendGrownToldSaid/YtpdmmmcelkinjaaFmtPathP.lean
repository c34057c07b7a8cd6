/- Path and proof of a list of leaves: no program in sight. -/
import Derived.Test.YtpdmmmcelkinjaaFmtParts
open Go
namespace Go.Proofs.YtpdmmmcelkinjaaFmt.Pl
/-- The hashes of ranges of leaves. -/
def hl (h : HF) (D : List (List Nat)) (R : List (Nat × Nat)) : List (List Nat) := R.map fun p => mr h (atL D) p.1 p.2
theorem hl_append (h : HF) (D : List (List Nat)) (R S : List (Nat × Nat)) : hl h D (R ++ S) = hl h D R ++ hl h D S := by simp [hl]
theorem hl_length (h : HF) (D : List (List Nat)) (R : List (Nat × Nat)) : (hl h D R).length = R.length := by simp [hl]
theorem hl_take (h : HF) (D : List (List Nat)) (R : List (Nat × Nat)) (k : Nat) (hR : ∀ p ∈ R, p.1 + p.2 ≤ k ∧ 1 ≤ p.2) : hl h (D.take k) R = hl h D R := by
  refine List.map_congr_left fun p hp => ?_
  obtain ⟨h1, h2⟩ := hR p hp
  refine mr_congr h _ _ _ _ h2 fun i _ hi => ?_
  unfold atL
  rw [List.getD_eq_getElem?_getD, List.getD_eq_getElem?_getD, List.getElem?_take_of_lt (by omega)]
def sh (c : Nat) (p : Nat × Nat) : Nat × Nat := (p.1 + c, p.2)
theorem hl_drop (h : HF) (D : List (List Nat)) (R : List (Nat × Nat)) (k : Nat) (hR : ∀ p ∈ R, 1 ≤ p.2) : hl h (D.drop k) R = hl h D (R.map (sh k)) := by
  unfold hl
  rw [List.map_map]
  refine List.map_congr_left fun p hp => ?_
  show mr h (atL (D.drop k)) p.1 p.2 = mr h (atL D) (p.1 + k) p.2
  rw [← mr_shift _ _ _ _ _ (hR p hp)]
  refine mr_congr h _ _ _ _ (hR p hp) fun i _ hi => ?_
  unfold atL
  rw [List.getD_eq_getElem?_getD, List.getD_eq_getElem?_getD, List.getElem?_drop, Nat.add_comm]
theorem sides_shift (c idx n : Nat) : ∀ a, sides (a + c) idx n = (sides a idx n).map (sh c) := by
  induction n using Nat.strongRecOn generalizing idx with
  | ind n ih =>
    intro a
    by_cases hn : 2 ≤ n
    · obtain ⟨s1, s2⟩ := split_spec hn
      have s3 := split_pos n
      by_cases hi : idx < split n
      · rw [sides_l hn hi, sides_l hn hi, ih _ s1, List.map_append]
        simp [sh]; omega
      · rw [sides_r hn hi, sides_r hn hi, show a + c + split n = a + split n + c by omega, ih _ (by omega), List.map_append]
        simp [sh]
    · have h0 : ∀ b, sides b idx n = [] := fun b => by rw [sides, dif_pos (by omega)]
      rw [h0, h0]; rfl
theorem sides_in (idx n : Nat) : ∀ a, idx < n → ∀ p ∈ sides a idx n, a ≤ p.1 ∧ p.1 + p.2 ≤ a + n ∧ 1 ≤ p.2 := by
  induction n using Nat.strongRecOn generalizing idx with
  | ind n ih =>
    intro a hl p hp
    by_cases hn : 2 ≤ n
    · obtain ⟨s1, s2⟩ := split_spec hn
      have s3 := split_pos n
      by_cases hi : idx < split n
      · rw [sides_l hn hi] at hp
        rcases List.mem_append.1 hp with h | h
        · have := ih _ s1 idx a hi p h; omega
        · simp at h; subst h; simp; omega
      · rw [sides_r hn hi] at hp
        rcases List.mem_append.1 hp with h | h
        · have := ih _ (by omega) (idx - split n) (a + split n) (by omega) p h; omega
        · simp at h; subst h; simp; omega
    · rw [sides, dif_pos (by omega)] at hp; simp at hp
/-- What spec.Path gives. -/
def pathL (h : HF) (idx : Nat) (D : List (List Nat)) : List (List Nat) := hl h D (sides 0 idx D.length)
theorem pathL_one (h : HF) (idx : Nat) (D : List (List Nat)) (hn : D.length = 1) : pathL h idx D = [] := by unfold pathL; rw [hn, sides_one]; rfl
theorem pathL_l (h : HF) (idx : Nat) (D : List (List Nat)) (hn : 2 ≤ D.length) (hi : idx < split D.length) : pathL h idx D = pathL h idx (D.take (split D.length)) ++ [mth h (D.drop (split D.length))] := by
  obtain ⟨s1, s2⟩ := split_spec hn
  unfold pathL
  rw [sides_l hn hi, hl_append, mth_drop h D _ s1, show (D.take (split D.length)).length = split D.length by simp; omega, hl_take h D _ _ (fun p hp => by have := sides_in idx _ 0 hi p hp; omega), Nat.zero_add]
  rfl
theorem pathL_r (h : HF) (idx : Nat) (D : List (List Nat)) (hn : 2 ≤ D.length) (hl : idx < D.length) (hi : ¬ idx < split D.length) : pathL h idx D = pathL h (idx - split D.length) (D.drop (split D.length)) ++ [mth h (D.take (split D.length))] := by
  obtain ⟨s1, s2⟩ := split_spec hn
  have s3 := split_pos D.length
  unfold pathL
  rw [sides_r hn hi, hl_append, mth_take h D _ s3 (by omega), show (D.drop (split D.length)).length = D.length - split D.length by simp, hl_drop h D _ _ (fun p hp => (sides_in _ _ 0 (by omega) p hp).2.2), ← sides_shift, Nat.zero_add]
  rfl
theorem pathL_length (h : HF) (idx : Nat) (D : List (List Nat)) : (pathL h idx D).length = (dirs idx D.length).length := by unfold pathL; rw [hl_length, sides_length]
theorem cproof_shift (c m n : Nat) : ∀ (a : Nat) (whole : Bool), m ≤ n → 1 ≤ m → cproof (a + c) m n whole = (cproof a m n whole).map (sh c) := by
  induction n using Nat.strongRecOn generalizing m with
  | ind n ih =>
    intro a whole hle h1
    by_cases hm : m = n
    · subst hm; rw [cproof_eq, cproof_eq]; cases whole <;> simp [sh]
    · have hn : 2 ≤ n := by omega
      obtain ⟨s1, s2⟩ := split_spec hn
      have s3 := split_pos n
      by_cases hi : m ≤ split n
      · rw [cproof_l hm hn hi, cproof_l hm hn hi, ih _ s1 _ _ _ hi h1, List.map_append]
        simp [sh]; omega
      · rw [cproof_r hm hn hi, cproof_r hm hn hi, show a + c + split n = a + split n + c by omega, ih _ (by omega) _ _ _ (by omega) (by omega), List.map_append]
        simp [sh]
theorem cproof_in (m n : Nat) : ∀ (a : Nat) (whole : Bool), m ≤ n → 1 ≤ m → ∀ p ∈ cproof a m n whole, a ≤ p.1 ∧ p.1 + p.2 ≤ a + n ∧ 1 ≤ p.2 := by
  induction n using Nat.strongRecOn generalizing m with
  | ind n ih =>
    intro a whole hle h1 p hp
    by_cases hm : m = n
    · subst hm
      rw [cproof_eq] at hp
      cases whole <;> simp at hp
      subst hp; simp; omega
    · have hn : 2 ≤ n := by omega
      obtain ⟨s1, s2⟩ := split_spec hn
      have s3 := split_pos n
      by_cases hi : m ≤ split n
      · rw [cproof_l hm hn hi] at hp
        rcases List.mem_append.1 hp with h | h
        · have := ih _ s1 m a whole hi h1 p h; omega
        · simp at h; subst h; simp; omega
      · rw [cproof_r hm hn hi] at hp
        rcases List.mem_append.1 hp with h | h
        · have := ih _ (by omega) (m - split n) (a + split n) false (by omega) (by omega) p h; omega
        · simp at h; subst h; simp; omega
/-- What spec.subproof gives. -/
def proofL (h : HF) (m : Nat) (D : List (List Nat)) (whole : Bool) : List (List Nat) := hl h D (cproof 0 m D.length whole)
theorem proofL_whole (h : HF) (D : List (List Nat)) : proofL h D.length D true = [] := by unfold proofL; rw [cproof_eq]; rfl
theorem proofL_part (h : HF) (D : List (List Nat)) : proofL h D.length D false = [mth h D] := by unfold proofL; rw [cproof_eq]; rfl
theorem proofL_l (h : HF) (m : Nat) (D : List (List Nat)) (whole : Bool) (hm : m ≠ D.length) (hn : 2 ≤ D.length) (h1 : 1 ≤ m) (hi : m ≤ split D.length) : proofL h m D whole = proofL h m (D.take (split D.length)) whole ++ [mth h (D.drop (split D.length))] := by
  obtain ⟨s1, s2⟩ := split_spec hn
  unfold proofL
  rw [cproof_l hm hn hi, hl_append, mth_drop h D _ s1, show (D.take (split D.length)).length = split D.length by simp; omega, hl_take h D _ _ (fun p hp => by have := cproof_in m _ 0 whole hi h1 p hp; omega), Nat.zero_add]
  rfl
theorem proofL_r (h : HF) (m : Nat) (D : List (List Nat)) (whole : Bool) (hm : m < D.length) (hn : 2 ≤ D.length) (hi : ¬ m ≤ split D.length) : proofL h m D whole = proofL h (m - split D.length) (D.drop (split D.length)) false ++ [mth h (D.take (split D.length))] := by
  obtain ⟨s1, s2⟩ := split_spec hn
  have s3 := split_pos D.length
  unfold proofL
  rw [cproof_r (by omega) hn hi, hl_append, mth_take h D _ s3 (by omega), show (D.drop (split D.length)).length = D.length - split D.length by simp, hl_drop h D _ _ (fun p hp => (cproof_in _ _ 0 false (by omega) (by omega) p hp).2.2), ← cproof_shift _ _ _ _ _ (by omega) (by omega), Nat.zero_add]
  rfl
end Go.Proofs.YtpdmmmcelkinjaaFmt.Pl
/- What Rehash does to a list: no program in sight. -/
open Go
namespace Go.Proofs.YtpdmmmcelkinjaaFmt.Pl
/-- The hashes from b on, folded one by one. -/
def fd (h : HF) (H : List (List Nat)) (b : Nat) : Nat → List Nat
  | 0 => H.getD b []
  | j + 1 => h.hc (H.getD (b + 1 + j) []) (fd h H b j)
/-- What Rehash gives. -/
def reh (h : HF) (H : List (List Nat)) (b e : Nat) : List (List Nat) := if b < e then H.take b ++ [fd h H b (e - b - 1)] ++ H.drop e else H
structure RI (h : HF) (H : List (List Nat)) (b e i c : Nat) (M : List (List Nat)) : Prop where
  le : c ≤ i
  len : M.length = H.length
  take : M.take c = (reh h H b e).take c
  drop : M.drop i = H.drop i
  link : (b < e ∧ ((i ≤ b ∧ c = i) ∨ (e ≤ i ∧ c + (e - b) = i + 1))) ∨ (¬ b < e ∧ c = i)
theorem RI.start (h : HF) (H : List (List Nat)) (b e : Nat) : RI h H b e 0 0 H := ⟨Nat.le_refl _, rfl, by simp, rfl, by
  by_cases hb : b < e
  · exact .inl ⟨hb, .inl ⟨Nat.zero_le _, rfl⟩⟩
  · exact .inr ⟨hb, rfl⟩⟩
theorem RI.at_ {h : HF} {H M : List (List Nat)} {b e i c : Nat} (r : RI h H b e i c M) : ∀ k, i ≤ k → M[k]? = H[k]? := fun k hk => by
  have h1 : (M.drop i)[k - i]? = (H.drop i)[k - i]? := by rw [r.drop]
  rw [List.getElem?_drop, List.getElem?_drop] at h1
  rwa [show i + (k - i) = k by omega] at h1
theorem set_take {α : Type} (M : List α) (c : Nat) (x : α) (hc : c < M.length) : (M.set c x).take (c + 1) = M.take c ++ [x] := by
  rw [List.take_set, List.take_add_one, List.getElem?_eq_getElem hc]
  show (M.take c ++ [M[c]]).set c x = _
  have h0 : c - (M.take c).length = 0 := by simp; omega
  rw [List.set_append_right _ _ (by simp; omega), h0]; rfl
theorem set_drop {α : Type} (M : List α) (c i : Nat) (x : α) (hc : c < i) : (M.set c x).drop i = M.drop i := by
  rw [List.drop_set_of_lt hc]
theorem RI.step {h : HF} {H M : List (List Nat)} {b e i c : Nat} (r : RI h H b e i c M) (hi : i < H.length) (hn : ¬ (b ≤ i ∧ i < e)) : RI h H b e (i + 1) (c + 1) (M.set c (H.getD i [])) := by
  have hl := r.len
  have hle := r.le
  have hx : (reh h H b e)[c]? = some (H.getD i []) := by
    have hg : H[i]? = some (H.getD i []) := by rw [List.getD_eq_getElem?_getD, List.getElem?_eq_getElem hi]; rfl
    rw [← hg]
    rcases r.link with ⟨hb, ⟨h1, rfl⟩ | ⟨h1, h2⟩⟩ | ⟨hb, rfl⟩
    · unfold reh
      rw [if_pos hb, List.append_assoc, List.getElem?_append_left (by simp; omega), List.getElem?_take_of_lt (by omega)]
    · unfold reh
      rw [if_pos hb, List.getElem?_append_right (by simp; omega), List.getElem?_drop]
      congr 1
      simp; omega
    · unfold reh
      rw [if_neg hb]
  refine ⟨by omega, by simp [hl], ?_, ?_, ?_⟩
  · rw [set_take M c _ (by omega), r.take, List.take_add_one, hx]; rfl
  · rw [set_drop M c (i + 1) _ (by omega), ← List.drop_drop, r.drop, List.drop_drop]
  · rcases r.link with ⟨hb, ⟨h1, h2⟩ | ⟨h1, h2⟩⟩ | ⟨hb, h2⟩
    · exact .inl ⟨hb, .inl ⟨by omega, by omega⟩⟩
    · exact .inl ⟨hb, .inr ⟨by omega, by omega⟩⟩
    · exact .inr ⟨hb, by omega⟩
theorem RI.fold {h : HF} {H M : List (List Nat)} {b e i c : Nat} (r : RI h H b e i c M) (he : e ≤ H.length) (h1 : b ≤ i) (h2 : i < e) : i = b ∧ c = b ∧ RI h H b e e (c + 1) (M.set c (fd h H b (e - b - 1))) := by
  have hl := r.len
  obtain ⟨hb, rfl, rfl⟩ : b < e ∧ i = b ∧ c = b := by
    rcases r.link with ⟨hb, ⟨_, _⟩ | ⟨_, _⟩⟩ | ⟨hb, _⟩
    · exact ⟨hb, by omega, by omega⟩
    · omega
    · omega
  refine ⟨rfl, rfl, by omega, by simp [hl], ?_, ?_, .inl ⟨hb, .inr ⟨Nat.le_refl _, by omega⟩⟩⟩
  · rw [set_take M c _ (by omega), r.take, List.take_add_one]
    unfold reh
    rw [if_pos hb]
    congr 1
    rw [List.append_assoc, List.getElem?_append_right (by simp; omega)]
    simp
    have : min c H.length = c := by omega
    rw [this]; simp
  · rw [set_drop M c e _ (by omega)]
    have := r.drop
    have h3 : (M.drop c).drop (e - c) = (H.drop c).drop (e - c) := by rw [this]
    rw [List.drop_drop, List.drop_drop] at h3
    rwa [show c + (e - c) = e by omega] at h3
theorem RI.end_ {h : HF} {H M : List (List Nat)} {b e c : Nat} (r : RI h H b e H.length c M) (he : e ≤ H.length) : M.take c = reh h H b e ∧ c = (reh h H b e).length := by
  have hc : c = (reh h H b e).length := by
    rcases r.link with ⟨hb, ⟨h1, h2⟩ | ⟨h1, h2⟩⟩ | ⟨hb, h2⟩
    · unfold reh; rw [if_pos hb]; omega
    · unfold reh; rw [if_pos hb]; simp; omega
    · unfold reh; rw [if_neg hb]; exact h2
  exact ⟨by rw [r.take, hc, List.take_length], hc⟩
end Go.Proofs.YtpdmmmcelkinjaaFmt.Pl
