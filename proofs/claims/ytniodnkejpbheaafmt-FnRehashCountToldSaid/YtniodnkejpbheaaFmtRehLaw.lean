/- What Rehash makes of the plan's hashes is the path, or the proof. -/
import Derived.Test.YtniodnkejpbheaaFmtHashOf
import Derived.Test.YtniodnkejpbheaaFmtPathP
import Derived.Test.YtniodnkejpbheaaFmtEphem2
import Derived.Test.YtniodnkejpbheaaFmtConsPlan
namespace Go.Proofs.YtniodnkejpbheaaFmt
namespace Pl
/-- Folded from the right. -/
def pfold (h : HF) : List (List Nat) → List Nat
  | [] => []
  | [x] => x
  | x :: y :: r => h.hc x (pfold h (y :: r))
theorem pfold_cons (h : HF) (x : List Nat) (r : List (List Nat)) (hr : 0 < r.length) : pfold h (x :: r) = h.hc x (pfold h r) := by
  cases r with
  | nil => simp at hr
  | cons y r => rfl
def nv (h : HF) (f : Nat → List Nat) (p : Nat × Nat) : List Nat := mr h f (p.2 * 2 ^ p.1) (2 ^ p.1)
theorem mr_pieces (h : HF) (f : Nat → List Nat) (e : Nat) (he : e < 18446744073709551616) : ∀ (n a K : Nat), e - a = n → a < e → a % 2 ^ K = 0 → e - a ≤ 2 ^ K → mr h f a (e - a) = pfold h ((pieces a e).map (nv h f)) := by
  intro n
  induction n using Nat.strongRecOn with
  | ind n ih =>
    intro a K hn hlt hK hle
    obtain ⟨l, hl, ⟨g1, g2, g3⟩, hst, hdv, hle2⟩ := pieces_step hlt he
    have hp := Nat.two_pow_pos l
    rw [hst, List.map_cons]
    have hv : nv h f (l, a / 2 ^ l) = mr h f a (2 ^ l) := by unfold nv; simp only [hdv]
    rw [hv]
    by_cases h1 : e - a = 2 ^ l
    · rw [pieces_nil (b := a + 2 ^ l) (e := e) (by omega), h1]; rfl
    · have hlK : l < K := by
        rcases Nat.lt_or_ge l K with h | h
        · exact h
        · have := Nat.pow_le_pow_right (n := 2) (by decide) h; omega
      have ha : a % 2 ^ (l + 1) = 0 := by
        have : 2 ^ K = 2 ^ (l + 1) * 2 ^ (K - (l + 1)) := by rw [← Nat.pow_add]; congr 1; omega
        rw [this] at hK
        exact Nat.mod_eq_zero_of_dvd (Nat.dvd_trans ⟨_, rfl⟩ (Nat.dvd_of_mod_eq_zero hK))
      have hub : e - a < 2 ^ (l + 1) := by
        rcases g3 with h | h
        · exact absurd ha h
        · exact h
      have hsp : split (e - a) = 2 ^ l := split_eq (by omega) (by omega)
      have hn2 : 2 ≤ e - a := by omega
      have hrest : 0 < ((pieces (a + 2 ^ l) e).map (nv h f)).length := by
        rw [List.length_map]
        rcases Nat.eq_zero_or_pos (pieces (a + 2 ^ l) e).length with h0 | h0
        · rw [pieces_empty he] at h0; omega
        · exact h0
      rw [pfold_cons _ _ _ hrest, mr_two _ _ _ _ hn2, hsp, show e - a - 2 ^ l = e - (a + 2 ^ l) by omega]
      rw [ih (e - (a + 2 ^ l)) (by omega) (a + 2 ^ l) l rfl (by omega) (by rw [Nat.add_mod, g1, Nat.mod_self]; simp) (by rw [Nat.pow_succ] at hub; omega)]
theorem fd_pfold (h : HF) (X Q Z : List (List Nat)) : ∀ j, j < Q.length → fd h (X ++ Q.reverse ++ Z) X.length j = pfold h (Q.drop (Q.length - 1 - j)) := by
  have at_ : ∀ j, j < Q.length → (X ++ Q.reverse ++ Z).getD (X.length + j) [] = Q.getD (Q.length - 1 - j) [] := fun j hj => by
    rw [List.getD_eq_getElem?_getD, List.getD_eq_getElem?_getD, List.append_assoc, List.getElem?_append_right (by omega), Nat.add_sub_cancel_left, List.getElem?_append_left (by simpa using hj), List.getElem?_reverse hj]
  intro j
  induction j with
  | zero =>
    intro hj
    have h1 := at_ 0 hj
    unfold fd
    rw [Nat.add_zero] at h1
    rw [h1, Nat.sub_zero, List.drop_eq_getElem_cons (by omega : Q.length - 1 < Q.length), List.drop_of_length_le (by omega), List.getD_eq_getElem?_getD, List.getElem?_eq_getElem (by omega)]
    rfl
  | succ j ih =>
    intro hj
    unfold fd
    rw [ih (by omega), show X.length + 1 + j = X.length + (j + 1) by omega, at_ (j + 1) hj, List.drop_eq_getElem_cons (by omega : Q.length - 1 - (j + 1) < Q.length), pfold_cons _ _ _ (by simp; omega), List.getD_eq_getElem?_getD, List.getElem?_eq_getElem (by omega), show Q.length - 1 - (j + 1) + 1 = Q.length - 1 - j by omega]
    rfl
end Pl
theorem nodeHs_append (h : Pl.HF) (L : List (List Nat)) (M N : List (Nat × Nat)) : nodeHs h L (M ++ N) = nodeHs h L M ++ nodeHs h L N := by simp [nodeHs]
theorem nodeHs_reverse (h : Pl.HF) (L : List (List Nat)) (M : List (Nat × Nat)) : nodeHs h L M.reverse = (nodeHs h L M).reverse := by simp [nodeHs]
theorem nodeHs_nv (h : Pl.HF) (L : List (List Nat)) (M : List (Nat × Nat)) : nodeHs h L M = M.map (Pl.nv h (Pl.atL L)) := rfl
theorem reh_parts (h : Pl.HF) (L : List (List Nat)) (X Z : List (Nat × Nat)) (a s K b e : Nat) (hs : s < 18446744073709551616) (hK : a % 2 ^ K = 0) (hle : s - a ≤ 2 ^ K)
    (hb : b = if (Pl.pieces a s).length = 0 then 0 else X.length) (he : e = if (Pl.pieces a s).length = 0 then 0 else X.length + (Pl.pieces a s).length) :
    Pl.reh h (nodeHs h L (X ++ (Pl.pieces a s).reverse ++ Z)) b e = nodeHs h L X ++ Pl.hl h L (if a < s then [(a, s - a)] else []) ++ nodeHs h L Z := by
  rw [nodeHs_append, nodeHs_append, nodeHs_reverse]
  by_cases h0 : (Pl.pieces a s).length = 0
  · rw [if_pos h0] at hb he
    subst hb he
    have hlt : ¬ a < s := by rw [Pl.pieces_empty hs] at h0; omega
    rw [if_neg hlt, List.eq_nil_of_length_eq_zero h0]
    unfold Pl.reh
    rw [if_neg (by omega)]
    simp [nodeHs, Pl.hl]
  · rw [if_neg h0] at hb he
    have hlt : a < s := by
      rcases Nat.lt_or_ge a s with h | h
      · exact h
      · exact absurd ((Pl.pieces_empty hs).2 h) h0
    rw [if_pos hlt]
    have hX : (nodeHs h L X).length = X.length := nodeHs_length h L X
    have hQ : (nodeHs h L (Pl.pieces a s)).length = (Pl.pieces a s).length := nodeHs_length h L _
    have hfd := Pl.fd_pfold h (nodeHs h L X) (nodeHs h L (Pl.pieces a s)) (nodeHs h L Z) ((Pl.pieces a s).length - 1) (by omega)
    rw [hX, hQ, Nat.sub_self, List.drop_zero, nodeHs_nv h L (Pl.pieces a s), ← Pl.mr_pieces h (Pl.atL L) s hs _ a K rfl hlt hK hle, ← nodeHs_nv] at hfd
    unfold Pl.reh
    have hbe : e - b - 1 = (Pl.pieces a s).length - 1 := by omega
    rw [if_pos (by omega), hbe, hb, hfd]
    congr 1
    · congr 1
      rw [List.append_assoc, List.take_left' hX]
    · rw [List.drop_left' (by simp [hX, hQ, he])]
end Go.Proofs.YtniodnkejpbheaaFmt
/- The plans' hashes behind Rehash are the path and the proof. -/
namespace Go.Proofs.YtniodnkejpbheaaFmt
theorem fend_gap {l i s : Nat} (h : i < s / 2 ^ l) (hs : s < 18446744073709551616) : Pl.fend l i (Pl.up l i s) % 2 ^ (l + Pl.up l i s) = 0 ∧ s - Pl.fend l i (Pl.up l i s) ≤ 2 ^ (l + Pl.up l i s) := by
  obtain ⟨u1, u2, u3, u4, u5⟩ := Pl.up_spec h hs
  generalize Pl.up l i s = d at *
  have hp := Nat.two_pow_pos (l + d)
  have e1 : s / 2 ^ (l + d) = i / 2 ^ d + 1 := by rw [Nat.pow_add, ← Nat.div_div_eq_div_mul]; exact u3
  have hlt : s < Pl.fend l i d + 2 ^ (l + d) := by
    have := Nat.lt_mul_of_div_lt (a := s) (b := i / 2 ^ d + 1 + 1) (c := 2 ^ (l + d)) (by omega) hp
    unfold Pl.fend
    rw [Nat.add_mul (i / 2 ^ d + 1) 1, Nat.one_mul] at this
    exact this
  exact ⟨by unfold Pl.fend; exact Nat.mul_mod_left _ _, by omega⟩
theorem of_ne {n : Nat} {N : List (Nat × Nat)} (hn : n ≤ 1048576) (h : ∀ p ∈ N, Pl.ne p ≤ n) : OfLeaves n N := fun p hp => by
  have h1 := h p hp
  unfold Pl.ne at h1
  refine ⟨?_, h1⟩
  rcases Nat.lt_or_ge p.1 21 with h2 | h2
  · omega
  · have h3 := Nat.pow_le_pow_right (n := 2) (by decide) h2
    have h4 : 1 * 2 ^ p.1 ≤ (p.2 + 1) * 2 ^ p.1 := Nat.mul_le_mul_right _ (by omega)
    omega
theorem incl_reh (h : Pl.HF) (L : List (List Nat)) (i : Nat) (hi : i < L.length) (hs : L.length < 18446744073709551616) :
    Pl.reh h (nodeHs h L (Pl.planL 0 i L.length).tail) (sk (Pl.planB 0 i L.length) (Pl.planE 0 i L.length)) (skE (Pl.planB 0 i L.length) (Pl.planE 0 i L.length)) = Pl.pathL h i L := by
  have h0 : i < L.length / 2 ^ 0 := by simpa using hi
  obtain ⟨f1, f2⟩ := fend_gap h0 hs
  obtain ⟨k1, k2⟩ := sk_plan 0 i L.length
  have := reh_parts h L (Pl.sibs 0 i (Pl.up 0 i L.length)) (Pl.pieces 0 (Pl.fbeg 0 i (Pl.up 0 i L.length))).reverse (Pl.fend 0 i (Pl.up 0 i L.length)) L.length (0 + Pl.up 0 i L.length) (sk (Pl.planB 0 i L.length) (Pl.planE 0 i L.length)) (skE (Pl.planB 0 i L.length) (Pl.planE 0 i L.length)) hs f1 f2 (by rw [Pl.sibs_length]; exact k1) (by rw [Pl.sibs_length]; exact k2)
  unfold Pl.planL
  rw [List.cons_append, List.cons_append, List.tail_cons, this]
  unfold Pl.pathL
  rw [Pl.sides_parts hi hs, Pl.hl_append, Pl.hl_append, ← nodeHs_hl, ← nodeHs_hl]
  rfl
theorem incl_of (L : List (List Nat)) (i : Nat) (hi : i < L.length) (hs : L.length ≤ 1048576) : OfLeaves L.length (Pl.planL 0 i L.length).tail :=
  of_ne hs fun p hp => Pl.plan_within (l := 0) (i := i) (by simpa using hi) (by omega) p (List.mem_of_mem_tail hp)
theorem cons_reh (h : Pl.HF) (L : List (List Nat)) (m : Nat) (h0 : 0 < m) (hm : m < L.length) (hs : L.length < 18446744073709551616) :
    Pl.reh h (nodeHs h L (Pl.consL m L.length)) (Pl.consB m L.length) (Pl.consE m L.length) = Pl.proofL h m L true := by
  obtain ⟨k1, k2, q, k3, k4⟩ := cl_spec h0 hm hs
  obtain ⟨f1, f2⟩ := fend_gap k2 hs
  have hup := (Pl.cproof_up 64 0 m L.length (Pl.cl m) q true (by decide) k3 (by omega) (by omega) (.inl hm)).2
  rw [Nat.zero_add, Nat.zero_add, show (m - 1) / 2 ^ Pl.cl m = Pl.ci m from rfl, Pl.up_parts k2 hs] at hup
  unfold Pl.proofL
  rw [hup]
  unfold Pl.consL Pl.consB Pl.consE
  by_cases hc : Pl.ci m = 0
  · have hq : q = 0 := by omega
    obtain ⟨s1, s2⟩ := sk_plan (Pl.cl m) (Pl.ci m) L.length
    have := reh_parts h L (Pl.sibs (Pl.cl m) (Pl.ci m) (Pl.up (Pl.cl m) (Pl.ci m) L.length)) (Pl.pieces 0 (Pl.fbeg (Pl.cl m) (Pl.ci m) (Pl.up (Pl.cl m) (Pl.ci m) L.length))).reverse (Pl.fend (Pl.cl m) (Pl.ci m) (Pl.up (Pl.cl m) (Pl.ci m) L.length)) L.length _ (sk (Pl.planB (Pl.cl m) (Pl.ci m) L.length) (Pl.planE (Pl.cl m) (Pl.ci m) L.length)) (skE (Pl.planB (Pl.cl m) (Pl.ci m) L.length) (Pl.planE (Pl.cl m) (Pl.ci m) L.length)) hs f1 f2 (by rw [Pl.sibs_length]; exact s1) (by rw [Pl.sibs_length]; exact s2)
    rw [if_pos hc, if_pos hc, if_pos hc]
    unfold Pl.planL
    rw [List.cons_append, List.cons_append, List.tail_cons, this]
    unfold Pl.seedR
    rw [if_pos (show true = true ∧ q = 0 from ⟨rfl, hq⟩), List.nil_append, Pl.hl_append, Pl.hl_append, ← nodeHs_hl, ← nodeHs_hl]
    rfl
  · have hq : ¬ q = 0 := by omega
    have hp := Nat.two_pow_pos (Pl.cl m)
    have := reh_parts h L ((Pl.cl m, Pl.ci m) :: Pl.sibs (Pl.cl m) (Pl.ci m) (Pl.up (Pl.cl m) (Pl.ci m) L.length)) (Pl.pieces 0 (Pl.fbeg (Pl.cl m) (Pl.ci m) (Pl.up (Pl.cl m) (Pl.ci m) L.length))).reverse (Pl.fend (Pl.cl m) (Pl.ci m) (Pl.up (Pl.cl m) (Pl.ci m) L.length)) L.length _ (Pl.planB (Pl.cl m) (Pl.ci m) L.length) (Pl.planE (Pl.cl m) (Pl.ci m) L.length) hs f1 f2
      (by unfold Pl.planB; rw [List.length_cons, Pl.sibs_length]) (by unfold Pl.planE; rw [List.length_cons, Pl.sibs_length])
    rw [if_neg hc, if_neg hc, if_neg hc]
    unfold Pl.planL
    rw [this]
    unfold Pl.seedR
    rw [if_neg (show ¬ (true = true ∧ q = 0) from fun h => hq h.2), Pl.hl_append, Pl.hl_append, Pl.hl_append, ← nodeHs_hl, ← nodeHs_hl]
    have e1 : 0 + m - 2 ^ Pl.cl m = Pl.ci m * 2 ^ Pl.cl m := by
      have : Pl.ci m * 2 ^ Pl.cl m + 2 ^ Pl.cl m = m := by
        conv => rhs; rw [k3]
        rw [k4, Nat.mul_comm, Nat.mul_add, Nat.mul_one]
      omega
    rw [e1]
    simp [nodeHs, Pl.hl, Pl.mid]
theorem cons_of (L : List (List Nat)) (m : Nat) (h0 : 0 < m) (hm : m < L.length) (hs : L.length ≤ 1048576) : OfLeaves L.length (Pl.consL m L.length) := by
  obtain ⟨k1, k2, q, k3, k4⟩ := cl_spec h0 hm (by omega)
  refine of_ne hs fun p hp => Pl.plan_within k2 (by omega) p ?_
  unfold Pl.consL at hp
  split at hp
  · exact List.mem_of_mem_tail hp
  · exact hp
end Go.Proofs.YtniodnkejpbheaaFmt
