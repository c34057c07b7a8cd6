/- The check 'ephemeral' of the statements. -/
import Derived.Test.YtobnmgnnidhfkaaFmtPieces
import Derived.Test.YtobnmgnnidhfkaaFmtMth
import Derived.Test.YtobnmgnnidhfkaaFmtNode
import Derived.Lib.Hide
import Derived.IntWalk
import Derived.Test.YtobnmgnnidhfkaaFmtNodesFn
import Derived.Test.YtobnmgnnidhfkaaFmtHashOf
import Derived.Test.YtobnmgnnidhfkaaFmtPlan
import Derived.Test.YtobnmgnnidhfkaaFmtGrowP
namespace Go.Proofs.YtobnmgnnidhfkaaFmt
open Go.ChangeShapes Go.WideShapes Go.ChangeAt Go.RowKit
set_option maxRecDepth 20000
theorem elemNode : Tryf.prog.elem 31 = 34 := by kernel_rfl
theorem sizeNode (w : World) : (sizeOf 34).run Tryf.prog w = .ok 2 w := by
  obtain ⟨i0, hi, hz0, hz1, hz2⟩ := info_parts nodeInfo
  simp [sizeOf, typeInfo, hi, hz1]
theorem part_run (A : Option Addr) (n cap b x : Nat) (h1 : b ≤ x) (h2 : x ≤ cap) (W : World) :
    (Instr.slice 31 (.slice A n cap) (some (.int .i64 (b : Int))) (some (.int .i64 (x : Int))) none).run Tryf.prog W = .ok (.slice (if cap = b then A else A.map (·.add (b * 2))) (x - b) (cap - b)) W := by
  rw [run_slice_lh W 31 _ _ _ (by rw [elemNode]; exact Tryf.underlying31) .i64 .i64 (b : Int) (x : Int) (by omega) (by omega) (by omega), elemNode, sizeNode]
  rfl
theorem add_plain2 (g o k : Nat) : (⟨g, o, none⟩ : Addr).add k = ⟨g, o + k, none⟩ := by unfold Addr.add; split <;> simp_all
theorem NodesR.part {w : World} {A : Option Addr} {n cap b x : Nat} {L : List (Nat × Nat)} (h : NodesR w (.slice A n cap) L) (h1 : b ≤ x) (h2 : x ≤ L.length) :
    NodesR w (.slice (if cap = b then A else A.map (·.add (b * 2))) (x - b) (cap - b)) ((L.drop b).take (x - b)) := by
  obtain ⟨A', cap', e, hc, hat⟩ := h
  injection e with e1 e2 e3
  subst e1 e2 e3
  have hl : ((L.drop b).take (x - b)).length = x - b := by simp; omega
  refine ⟨_, _, by rw [hl], by rw [hl]; omega, fun hp => ?_⟩
  rw [hl] at hp
  obtain ⟨g, o, rfl, h⟩ := hat (by omega)
  rw [if_neg (by omega)]
  refine ⟨g, o + b * 2, by simp [add_plain2], fun k hk => ?_⟩
  rw [hl] at hk
  have := h (b + k) (by omega)
  rw [show o + b * 2 + k * 2 = o + (b + k) * 2 by omega]
  simpa using this
theorem count_take (M : List (Nat × Nat)) (p : Nat × Nat) (j : Nat) (h : j < M.length) : (M.take (j + 1)).count p = (M.take j).count p + if M[j] = p then 1 else 0 := by
  rw [take_snoc M j h, List.count_append, List.count_singleton]
  congr 1
  by_cases e : M[j] = p
  · rw [if_pos e]; simp [e]
  · rw [if_neg e]; simp [e]
end Go.Proofs.YtobnmgnnidhfkaaFmt
/- The check 'ephemeral' at a plan. -/
namespace Go.Proofs.YtobnmgnnidhfkaaFmt
open Go.ChangeShapes Go.WideShapes Go.ChangeAt Go.RowKit
namespace Pl
theorem pieces_once (e : Nat) (he : e < 18446744073709551616) : ∀ (n b : Nat), e - b = n → ∀ p ∈ pieces b e, (pieces b e).count p = 1 := by
  intro n
  induction n using Nat.strongRecOn with
  | ind n ih =>
    intro b hb p hp
    rcases Nat.lt_or_ge b e with h | h
    · obtain ⟨l, hl, _, hst, hdv, hle⟩ := pieces_step h he
      have hp2 := Nat.two_pow_pos l
      have hrest := pieces_in e he _ (b + 2 ^ l) rfl
      have hhead : (l, b / 2 ^ l) ∉ pieces (b + 2 ^ l) e := fun hm => by
        have := (hrest _ hm).1
        unfold nb at this
        simp only [hdv] at this
        omega
      rw [hst] at hp ⊢
      rw [List.mem_cons] at hp
      by_cases e1 : p = (l, b / 2 ^ l)
      · subst e1
        rw [List.count_cons_self, List.count_eq_zero.2 hhead]
      · rw [List.count_cons_of_ne (Ne.symm e1)]
        exact ih (e - (b + 2 ^ l)) (by omega) (b + 2 ^ l) rfl p (hp.resolve_left e1)
    · rw [pieces_nil h] at hp; cases hp
end Pl
theorem sk_plan (l i s : Nat) : sk (Pl.planB l i s) (Pl.planE l i s) = (if (Pl.pieces (Pl.fend l i (Pl.up l i s)) s).length = 0 then 0 else Pl.up l i s) ∧
    skE (Pl.planB l i s) (Pl.planE l i s) = (if (Pl.pieces (Pl.fend l i (Pl.up l i s)) s).length = 0 then 0 else Pl.up l i s + (Pl.pieces (Pl.fend l i (Pl.up l i s)) s).length) := by
  unfold sk skE Pl.planB Pl.planE
  by_cases h0 : (Pl.pieces (Pl.fend l i (Pl.up l i s)) s).length = 0
  · simp [h0]
  · rw [if_neg h0, if_neg h0, if_neg h0, if_neg h0, if_pos (by omega), if_pos (by omega)]
    exact ⟨by omega, by omega⟩
end Go.Proofs.YtobnmgnnidhfkaaFmt
/- What Rehash makes of the plan's hashes is the path, or the proof. -/
namespace Go.Proofs.YtobnmgnnidhfkaaFmt
namespace Pl
theorem fd_pfold (h : HF) (X Q Z : List (List Nat)) : ∀ j, j < Q.length → fd h (X ++ Q.reverse ++ Z) X.length j = pfold h (Q.drop (Q.length - 1 - j)) := by
  have at_ : ∀ j, j < Q.length → (X ++ Q.reverse ++ Z).getD (X.length + j) [] = Q.getD (Q.length - 1 - j) [] := fun j hj => by
    rw [List.getD_eq_getElem?_getD, List.getD_eq_getElem?_getD, List.append_assoc, List.getElem?_append_right (by omega), Nat.add_sub_cancel_left, List.getElem?_append_left (by simpa using hj), List.getElem?_reverse hj]
  intro j
  induction j with
  | zero =>
    intro hj
    have h1 := at_ 0 hj
    unfold fd
    rw [Nat.add_zero] at h1
    rw [h1, Nat.sub_zero, List.drop_eq_getElem_cons (by omega : Q.length - 1 < Q.length), List.drop_of_length_le (by omega), List.getD_eq_getElem?_getD, List.getElem?_eq_getElem (by omega)]
    rfl
  | succ j ih =>
    intro hj
    unfold fd
    rw [ih (by omega), show X.length + 1 + j = X.length + (j + 1) by omega, at_ (j + 1) hj, List.drop_eq_getElem_cons (by omega : Q.length - 1 - (j + 1) < Q.length), pfold_cons _ _ _ (by simp; omega), List.getD_eq_getElem?_getD, List.getElem?_eq_getElem (by omega), show Q.length - 1 - (j + 1) + 1 = Q.length - 1 - j by omega]
    rfl
end Pl
theorem nodeHs_append (h : Pl.HF) (L : List (List Nat)) (M N : List (Nat × Nat)) : nodeHs h L (M ++ N) = nodeHs h L M ++ nodeHs h L N := by simp [nodeHs]
theorem nodeHs_reverse (h : Pl.HF) (L : List (List Nat)) (M : List (Nat × Nat)) : nodeHs h L M.reverse = (nodeHs h L M).reverse := by simp [nodeHs]
theorem nodeHs_nv (h : Pl.HF) (L : List (List Nat)) (M : List (Nat × Nat)) : nodeHs h L M = M.map (Pl.nv h (Pl.atL L)) := rfl
theorem reh_parts (h : Pl.HF) (L : List (List Nat)) (X Z : List (Nat × Nat)) (a s K b e : Nat) (hs : s < 18446744073709551616) (hK : a % 2 ^ K = 0) (hle : s - a ≤ 2 ^ K)
    (hb : b = if (Pl.pieces a s).length = 0 then 0 else X.length) (he : e = if (Pl.pieces a s).length = 0 then 0 else X.length + (Pl.pieces a s).length) :
    Pl.reh h (nodeHs h L (X ++ (Pl.pieces a s).reverse ++ Z)) b e = nodeHs h L X ++ Pl.hl h L (if a < s then [(a, s - a)] else []) ++ nodeHs h L Z := by
  rw [nodeHs_append, nodeHs_append, nodeHs_reverse]
  by_cases h0 : (Pl.pieces a s).length = 0
  · rw [if_pos h0] at hb he
    subst hb he
    have hlt : ¬ a < s := by rw [Pl.pieces_empty hs] at h0; omega
    rw [if_neg hlt, List.eq_nil_of_length_eq_zero h0]
    unfold Pl.reh
    rw [if_neg (by omega)]
    simp [nodeHs, Pl.hl]
  · rw [if_neg h0] at hb he
    have hlt : a < s := by
      rcases Nat.lt_or_ge a s with h | h
      · exact h
      · exact absurd ((Pl.pieces_empty hs).2 h) h0
    rw [if_pos hlt]
    have hX : (nodeHs h L X).length = X.length := nodeHs_length h L X
    have hQ : (nodeHs h L (Pl.pieces a s)).length = (Pl.pieces a s).length := nodeHs_length h L _
    have hfd := Pl.fd_pfold h (nodeHs h L X) (nodeHs h L (Pl.pieces a s)) (nodeHs h L Z) ((Pl.pieces a s).length - 1) (by omega)
    rw [hX, hQ, Nat.sub_self, List.drop_zero, nodeHs_nv h L (Pl.pieces a s), ← Pl.mr_pieces h (Pl.atL L) s hs _ a K rfl hlt hK hle, ← nodeHs_nv] at hfd
    unfold Pl.reh
    have hbe : e - b - 1 = (Pl.pieces a s).length - 1 := by omega
    rw [if_pos (by omega), hbe, hb, hfd]
    congr 1
    · congr 1
      rw [List.append_assoc, List.take_left' hX]
    · rw [List.drop_left' (by simp [hX, hQ, he])]
end Go.Proofs.YtobnmgnnidhfkaaFmt
/- The plans' hashes behind Rehash are the path and the proof. -/
namespace Go.Proofs.YtobnmgnnidhfkaaFmt
theorem fend_gap {l i s : Nat} (h : i < s / 2 ^ l) (hs : s < 18446744073709551616) : Pl.fend l i (Pl.up l i s) % 2 ^ (l + Pl.up l i s) = 0 ∧ s - Pl.fend l i (Pl.up l i s) ≤ 2 ^ (l + Pl.up l i s) := by
  obtain ⟨u1, u2, u3, u4, u5⟩ := Pl.up_spec h hs
  generalize Pl.up l i s = d at *
  have hp := Nat.two_pow_pos (l + d)
  have e1 : s / 2 ^ (l + d) = i / 2 ^ d + 1 := by rw [Nat.pow_add, ← Nat.div_div_eq_div_mul]; exact u3
  have hlt : s < Pl.fend l i d + 2 ^ (l + d) := by
    have := Nat.lt_mul_of_div_lt (a := s) (b := i / 2 ^ d + 1 + 1) (c := 2 ^ (l + d)) (by omega) hp
    unfold Pl.fend
    rw [Nat.add_mul (i / 2 ^ d + 1) 1, Nat.one_mul] at this
    exact this
  exact ⟨by unfold Pl.fend; exact Nat.mul_mod_left _ _, by omega⟩
theorem of_ne {n : Nat} {N : List (Nat × Nat)} (hn : n ≤ 1048576) (h : ∀ p ∈ N, Pl.ne p ≤ n) : OfLeaves n N := fun p hp => by
  have h1 := h p hp
  unfold Pl.ne at h1
  refine ⟨?_, h1⟩
  rcases Nat.lt_or_ge p.1 21 with h2 | h2
  · omega
  · have h3 := Nat.pow_le_pow_right (n := 2) (by decide) h2
    have h4 : 1 * 2 ^ p.1 ≤ (p.2 + 1) * 2 ^ p.1 := Nat.mul_le_mul_right _ (by omega)
    omega
theorem incl_reh (h : Pl.HF) (L : List (List Nat)) (i : Nat) (hi : i < L.length) (hs : L.length < 18446744073709551616) :
    Pl.reh h (nodeHs h L (Pl.planL 0 i L.length).tail) (sk (Pl.planB 0 i L.length) (Pl.planE 0 i L.length)) (skE (Pl.planB 0 i L.length) (Pl.planE 0 i L.length)) = Pl.pathL h i L := by
  have h0 : i < L.length / 2 ^ 0 := by simpa using hi
  obtain ⟨f1, f2⟩ := fend_gap h0 hs
  obtain ⟨k1, k2⟩ := sk_plan 0 i L.length
  have := reh_parts h L (Pl.sibs 0 i (Pl.up 0 i L.length)) (Pl.pieces 0 (Pl.fbeg 0 i (Pl.up 0 i L.length))).reverse (Pl.fend 0 i (Pl.up 0 i L.length)) L.length (0 + Pl.up 0 i L.length) (sk (Pl.planB 0 i L.length) (Pl.planE 0 i L.length)) (skE (Pl.planB 0 i L.length) (Pl.planE 0 i L.length)) hs f1 f2 (by rw [Pl.sibs_length]; exact k1) (by rw [Pl.sibs_length]; exact k2)
  unfold Pl.planL
  rw [List.cons_append, List.cons_append, List.tail_cons, this]
  unfold Pl.pathL
  rw [Pl.sides_parts hi hs, Pl.hl_append, Pl.hl_append, ← nodeHs_hl, ← nodeHs_hl]
  rfl
theorem incl_of (L : List (List Nat)) (i : Nat) (hi : i < L.length) (hs : L.length ≤ 1048576) : OfLeaves L.length (Pl.planL 0 i L.length).tail :=
  of_ne hs fun p hp => Pl.plan_within (l := 0) (i := i) (by simpa using hi) (by omega) p (List.mem_of_mem_tail hp)
theorem cons_reh (h : Pl.HF) (L : List (List Nat)) (m : Nat) (h0 : 0 < m) (hm : m < L.length) (hs : L.length < 18446744073709551616) :
    Pl.reh h (nodeHs h L (Pl.consL m L.length)) (Pl.consB m L.length) (Pl.consE m L.length) = Pl.proofL h m L true := by
  obtain ⟨k1, k2, q, k3, k4⟩ := cl_spec h0 hm hs
  obtain ⟨f1, f2⟩ := fend_gap k2 hs
  have hup := (Pl.cproof_up 64 0 m L.length (Pl.cl m) q true (by decide) k3 (by omega) (by omega) (.inl hm)).2
  rw [Nat.zero_add, Nat.zero_add, show (m - 1) / 2 ^ Pl.cl m = Pl.ci m from rfl, Pl.up_parts k2 hs] at hup
  unfold Pl.proofL
  rw [hup]
  unfold Pl.consL Pl.consB Pl.consE
  by_cases hc : Pl.ci m = 0
  · have hq : q = 0 := by omega
    obtain ⟨s1, s2⟩ := sk_plan (Pl.cl m) (Pl.ci m) L.length
    have := reh_parts h L (Pl.sibs (Pl.cl m) (Pl.ci m) (Pl.up (Pl.cl m) (Pl.ci m) L.length)) (Pl.pieces 0 (Pl.fbeg (Pl.cl m) (Pl.ci m) (Pl.up (Pl.cl m) (Pl.ci m) L.length))).reverse (Pl.fend (Pl.cl m) (Pl.ci m) (Pl.up (Pl.cl m) (Pl.ci m) L.length)) L.length _ (sk (Pl.planB (Pl.cl m) (Pl.ci m) L.length) (Pl.planE (Pl.cl m) (Pl.ci m) L.length)) (skE (Pl.planB (Pl.cl m) (Pl.ci m) L.length) (Pl.planE (Pl.cl m) (Pl.ci m) L.length)) hs f1 f2 (by rw [Pl.sibs_length]; exact s1) (by rw [Pl.sibs_length]; exact s2)
    rw [if_pos hc, if_pos hc, if_pos hc]
    unfold Pl.planL
    rw [List.cons_append, List.cons_append, List.tail_cons, this]
    unfold Pl.seedR
    rw [if_pos (show true = true ∧ q = 0 from ⟨rfl, hq⟩), List.nil_append, Pl.hl_append, Pl.hl_append, ← nodeHs_hl, ← nodeHs_hl]
    rfl
  · have hq : ¬ q = 0 := by omega
    have hp := Nat.two_pow_pos (Pl.cl m)
    have := reh_parts h L ((Pl.cl m, Pl.ci m) :: Pl.sibs (Pl.cl m) (Pl.ci m) (Pl.up (Pl.cl m) (Pl.ci m) L.length)) (Pl.pieces 0 (Pl.fbeg (Pl.cl m) (Pl.ci m) (Pl.up (Pl.cl m) (Pl.ci m) L.length))).reverse (Pl.fend (Pl.cl m) (Pl.ci m) (Pl.up (Pl.cl m) (Pl.ci m) L.length)) L.length _ (Pl.planB (Pl.cl m) (Pl.ci m) L.length) (Pl.planE (Pl.cl m) (Pl.ci m) L.length) hs f1 f2
      (by unfold Pl.planB; rw [List.length_cons, Pl.sibs_length]) (by unfold Pl.planE; rw [List.length_cons, Pl.sibs_length])
    rw [if_neg hc, if_neg hc, if_neg hc]
    unfold Pl.planL
    rw [this]
    unfold Pl.seedR
    rw [if_neg (show ¬ (true = true ∧ q = 0) from fun h => hq h.2), Pl.hl_append, Pl.hl_append, Pl.hl_append, ← nodeHs_hl, ← nodeHs_hl]
    have e1 : 0 + m - 2 ^ Pl.cl m = Pl.ci m * 2 ^ Pl.cl m := by
      have : Pl.ci m * 2 ^ Pl.cl m + 2 ^ Pl.cl m = m := by
        conv => rhs; rw [k3]
        rw [k4, Nat.mul_comm, Nat.mul_add, Nat.mul_one]
      omega
    rw [e1]
    simp [nodeHs, Pl.hl, Pl.mid]
theorem cons_of (L : List (List Nat)) (m : Nat) (h0 : 0 < m) (hm : m < L.length) (hs : L.length ≤ 1048576) : OfLeaves L.length (Pl.consL m L.length) := by
  obtain ⟨k1, k2, q, k3, k4⟩ := cl_spec h0 hm (by omega)
  refine of_ne hs fun p hp => Pl.plan_within k2 (by omega) p ?_
  unfold Pl.consL at hp
  split at hp
  · exact List.mem_of_mem_tail hp
  · exact hp
end Go.Proofs.YtobnmgnnidhfkaaFmt
