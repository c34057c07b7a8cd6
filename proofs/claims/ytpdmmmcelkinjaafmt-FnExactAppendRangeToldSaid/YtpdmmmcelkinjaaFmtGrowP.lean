/- What one more leaf makes of the pieces of a range, in plain numbers. -/
import Derived.Test.YtpdmmmcelkinjaaFmtPlain
import Derived.Test.YtpdmmmcelkinjaaFmtMth
open Go
namespace Go.Proofs.YtpdmmmcelkinjaaFmt.Pl
/-- How many pieces are merged when the leaf e is put behind the leaves from b on. -/
def tmg : Nat → Nat → Nat → Nat
  | 0, _, _ => 0
  | f + 1, b, e => if e % 2 = 1 ∧ b < e then tmg f ((b + 1) / 2) (e / 2) + 1 else 0
theorem pcs_one (f k b : Nat) (hf : b + 1 < 2 ^ f) : pcs f k b (b + 1) = [(k, b)] := by
  cases f with
  | zero => simp at hf
  | succ f =>
    rw [pcs, if_neg (by omega), pcs_nil f (k + 1) ((b + 1) / 2) ((b + 1) / 2) (Nat.le_refl _)]
    rcases Nat.mod_two_eq_zero_or_one b with h | h
    · rw [if_neg (by omega), if_pos (by omega)]; simp
    · rw [if_pos h, if_neg (by omega)]; simp
theorem pcs_grow : ∀ (f k b e : Nat), b ≤ e → e + 1 < 2 ^ f →
    pcs f k b (e + 1) = (pcs f k b e).take ((pcs f k b e).length - tmg f b e) ++ [(k + tmg f b e, e / 2 ^ tmg f b e)] ∧ tmg f b e ≤ (pcs f k b e).length ∧
      ∀ j, j < tmg f b e → (pcs f k b e)[(pcs f k b e).length - 1 - j]? = some (k + j, e / 2 ^ j - 1) ∧ e / 2 ^ j % 2 = 1 := by
  intro f
  induction f with
  | zero => intro k b e _ h; simp at h
  | succ f ih =>
    intro k b e hb he
    by_cases hc : e % 2 = 1 ∧ b < e
    · obtain ⟨h1, h2⟩ := hc
      have ht : tmg (f + 1) b e = tmg f ((b + 1) / 2) (e / 2) + 1 := by rw [tmg, if_pos ⟨h1, h2⟩]
      obtain ⟨a1, a2, a3⟩ := ih (k + 1) ((b + 1) / 2) (e / 2) (by omega) (by rw [Nat.pow_succ] at he; omega)
      have e1 : pcs (f + 1) k b e = ((if b % 2 = 1 then [(k, b)] else []) ++ pcs f (k + 1) ((b + 1) / 2) (e / 2)) ++ [(k, e - 1)] := by
        rw [pcs, if_neg (by omega), if_pos h1, List.append_assoc]
      have e2 : pcs (f + 1) k b (e + 1) = (if b % 2 = 1 then [(k, b)] else []) ++ pcs f (k + 1) ((b + 1) / 2) (e / 2 + 1) := by
        rw [pcs, if_neg (by omega), if_neg (show ¬ (e + 1) % 2 = 1 by omega), List.append_nil, show (e + 1) / 2 = e / 2 + 1 by omega]
      rw [ht, e1, e2, a1]
      generalize (if b % 2 = 1 then [(k, b)] else []) = X at *
      generalize pcs f (k + 1) ((b + 1) / 2) (e / 2) = M at *
      generalize tmg f ((b + 1) / 2) (e / 2) = t at *
      refine ⟨?_, by simp; omega, fun j hj => ?_⟩
      · have hl : (X ++ M ++ [(k, e - 1)]).length - (t + 1) = X.length + (M.length - t) := by simp; omega
        rw [hl, List.append_assoc, List.take_append, List.take_of_length_le (l := X) (by omega), Nat.add_sub_cancel_left, List.take_append_of_le_length (by omega), List.append_assoc]
        congr 3
        rw [Nat.div_div_eq_div_mul, show 2 * 2 ^ t = 2 ^ (t + 1) by rw [Nat.pow_succ, Nat.mul_comm], show k + 1 + t = k + (t + 1) by omega]
      · cases j with
        | zero =>
          refine ⟨?_, by simpa using h1⟩
          rw [List.getElem?_append_right (by simp)]
          simp
        | succ j =>
          obtain ⟨b1, b2⟩ := a3 j (by omega)
          have hq : e / 2 ^ (j + 1) = e / 2 / 2 ^ j := by rw [Nat.div_div_eq_div_mul, show 2 * 2 ^ j = 2 ^ (j + 1) by rw [Nat.pow_succ, Nat.mul_comm]]
          rw [hq]
          refine ⟨?_, b2⟩
          have hi : (X ++ M ++ [(k, e - 1)]).length - 1 - (j + 1) = X.length + (M.length - 1 - j) := by simp; omega
          rw [hi, List.getElem?_append_left (by simp; omega), List.getElem?_append_right (by omega), Nat.add_sub_cancel_left, b1]
          rw [show k + 1 + j = k + (j + 1) by omega]
    · have ht : tmg (f + 1) b e = 0 := by rw [tmg, if_neg hc]
      rw [ht]
      refine ⟨?_, Nat.zero_le _, fun j hj => absurd hj (by omega)⟩
      rw [Nat.sub_zero, List.take_length, Nat.add_zero, Nat.pow_zero, Nat.div_one]
      rcases Nat.lt_or_ge b e with hlt | hge
      · have h0 : e % 2 = 0 := by
          rcases Nat.mod_two_eq_zero_or_one e with h | h
          · exact h
          · exact absurd ⟨h, hlt⟩ hc
        have e1 : pcs (f + 1) k b (e + 1) = (if b % 2 = 1 then [(k, b)] else []) ++ (pcs f (k + 1) ((b + 1) / 2) (e / 2) ++ [(k, e)]) := by
          rw [pcs, if_neg (by omega), if_pos (show (e + 1) % 2 = 1 by omega), show (e + 1) / 2 = e / 2 by omega, Nat.add_sub_cancel]
        have e2 : pcs (f + 1) k b e = (if b % 2 = 1 then [(k, b)] else []) ++ (pcs f (k + 1) ((b + 1) / 2) (e / 2) ++ []) := by
          rw [pcs, if_neg (by omega), if_neg (show ¬ e % 2 = 1 by omega)]
        rw [e1, e2, List.append_nil, List.append_assoc]
        rfl
      · obtain rfl : b = e := by omega
        rw [pcs_one (f + 1) k b he, pcs_nil (f + 1) k b b (Nat.le_refl _)]
        rfl
/-! ### The merge path, as the program reckons it -/
/-- How many ones a number ends in. -/
def ones : Nat → Nat → Nat
  | 0, _ => 0
  | f + 1, e => if e % 2 = 1 then ones f (e / 2) + 1 else 0
theorem blen_step {x : Nat} (h : 0 < x) : bitLen x = bitLen (x / 2) + 1 := blen_pos (by omega)
theorem xor_half2 (x y : Nat) : (x ^^^ y) / 2 = x / 2 ^^^ y / 2 := by
  have := Nat.shiftRight_xor_distrib (a := x) (b := y) (i := 1)
  simpa [Nat.shiftRight_eq_div_pow] using this
theorem xor_pos {x y : Nat} (h : x ≠ y) : 0 < x ^^^ y := by
  rcases Nat.eq_zero_or_pos (x ^^^ y) with h0 | h0
  · exfalso
    apply h
    apply Nat.eq_of_testBit_eq
    intro i
    have := congrArg (fun z => z.testBit i) h0
    simp only [Nat.testBit_xor, Nat.zero_testBit] at this
    cases hx : x.testBit i <;> cases hy : y.testBit i <;> simp_all
  · exact h0
theorem tmg_min : ∀ (f b e : Nat), 1 ≤ b → b ≤ e → e < 2 ^ f → tmg f b e = min (ones f e) (bitLen (e ^^^ (b - 1)) - 1) := by
  intro f
  induction f with
  | zero => intro b e h1 hb he; simp at he; omega
  | succ f ih =>
    intro b e h1 hb he
    rw [tmg, ones]
    by_cases ho : e % 2 = 1
    · have hx := blen_step (xor_pos (show e ≠ b - 1 by omega))
      rw [xor_half2] at hx
      rw [if_pos ho, hx, Nat.add_sub_cancel]
      by_cases hlt : b < e
      · rw [if_pos ⟨ho, hlt⟩, ih ((b + 1) / 2) (e / 2) (by omega) (by omega) (by rw [Nat.pow_succ] at he; omega), show (b + 1) / 2 - 1 = (b - 1) / 2 by omega]
        have hp := blen_gt (n := e / 2 ^^^ (b - 1) / 2) (k := 0) (by rw [Nat.pow_zero]; exact xor_pos (show e / 2 ≠ (b - 1) / 2 by omega))
        omega
      · rw [if_neg (fun h => hlt h.2), show (b - 1) / 2 = e / 2 by omega, Nat.xor_self, blen_zero]; simp
    · rw [if_neg ho, if_neg (fun h => ho h.1)]; simp
theorem tmg_zero : ∀ (f e : Nat), e < 2 ^ f → tmg f 0 e = ones f e := by
  intro f
  induction f with
  | zero => intro e _; rfl
  | succ f ih =>
    intro e he
    rw [tmg, ones]
    by_cases ho : e % 2 = 1
    · rw [if_pos ⟨ho, by omega⟩, if_pos ho, show (0 + 1) / 2 = 0 by rfl, ih (e / 2) (by rw [Nat.pow_succ] at he; omega)]
    · rw [if_neg (fun h => ho h.1), if_neg ho]
theorem blen_succ : ∀ (f q : Nat), q < 2 ^ f → bitLen (q ^^^ (q + 1)) = ones f q + 1 := by
  intro f
  induction f with
  | zero => intro q h; obtain rfl : q = 0 := by simpa using h
            exact (blen_step (by decide)).trans (by rw [show (0 ^^^ (0 + 1)) / 2 = 0 by decide, blen_zero]; rfl)
  | succ f ih =>
    intro q hq
    rw [blen_step (xor_pos (show q ≠ q + 1 by omega)), xor_half2, ones]
    by_cases ho : q % 2 = 1
    · rw [if_pos ho, show (q + 1) / 2 = q / 2 + 1 by omega, ih (q / 2) (by rw [Nat.pow_succ] at hq; omega)]
    · rw [if_neg ho, show (q + 1) / 2 = q / 2 by omega, Nat.xor_self, blen_zero]
/-- Behind an odd number: the ones that it ends in. -/
theorem blen_odd {f e : Nat} (ho : e % 2 = 1) (he : e < 2 ^ (f + 1)) : bitLen ((e - 1) ^^^ (e + 1)) = ones (f + 1) e + 1 := by
  rw [blen_step (xor_pos (show e - 1 ≠ e + 1 by omega)), xor_half2, show (e - 1) / 2 = e / 2 by omega, show (e + 1) / 2 = e / 2 + 1 by omega, blen_succ f (e / 2) (by rw [Nat.pow_succ] at he; omega), ones, if_pos ho]
theorem tmg_ones : ∀ (f b e : Nat), tmg f b e = 0 ∨ e % 2 = 1 := by
  intro f b e
  cases f with
  | zero => exact .inl rfl
  | succ f =>
    by_cases h : e % 2 = 1 ∧ b < e
    · exact .inr h.1
    · exact .inl (by rw [tmg, if_neg h])
end Go.Proofs.YtpdmmmcelkinjaaFmt.Pl
/- Two ranges, one behind the other: which pieces are merged, in plain numbers. -/
open Go
namespace Go.Proofs.YtpdmmmcelkinjaaFmt.Pl
/-- How many times the seed (the node s of this level) is merged with a neighbour, of the nodes from b up to e. -/
def mz : Nat → Nat → Nat → Nat → Nat
  | 0, _, _, _ => 0
  | f + 1, b, s, e => if (s % 2 = 1 ∧ b < s) ∨ (s % 2 = 0 ∧ s + 1 < e) then mz f ((b + 1) / 2) (s / 2) (e / 2) + 1 else 0
theorem pop_half (j s : Nat) : pop (j + 1) s = s % 2 + pop j (s / 2) := rfl
theorem mz_pcs : ∀ (f k b s e : Nat), b ≤ s → s < e → e < 2 ^ f →
    pcs f k b e = (pcs f k b s).take ((pcs f k b s).length - pop (mz f b s e) s) ++ (k + mz f b s e, s / 2 ^ mz f b s e) :: (pcs f k (s + 1) e).drop (mz f b s e - pop (mz f b s e) s) ∧
    pop (mz f b s e) s ≤ (pcs f k b s).length ∧ mz f b s e - pop (mz f b s e) s ≤ (pcs f k (s + 1) e).length ∧
    ∀ j, j < mz f b s e → (s / 2 ^ j % 2 = 1 → pop j s < (pcs f k b s).length ∧ (pcs f k b s)[(pcs f k b s).length - 1 - pop j s]? = some (k + j, s / 2 ^ j - 1)) ∧
      (s / 2 ^ j % 2 = 0 → (pcs f k (s + 1) e)[j - pop j s]? = some (k + j, s / 2 ^ j + 1)) := by
  intro f
  induction f with
  | zero => intro k b s e _ h1 h2; simp at h2; omega
  | succ f ih =>
    intro k b s e hb hs he
    rw [Nat.pow_succ] at he
    have hq : ∀ j, s / 2 ^ (j + 1) = s / 2 / 2 ^ j := fun j => by rw [Nat.div_div_eq_div_mul, show 2 * 2 ^ j = 2 ^ (j + 1) by rw [Nat.pow_succ, Nat.mul_comm]]
    have ePE : pcs (f + 1) k b e = (if b % 2 = 1 then [(k, b)] else []) ++ (pcs f (k + 1) ((b + 1) / 2) (e / 2) ++ if e % 2 = 1 then [(k, e - 1)] else []) := by rw [pcs, if_neg (by omega)]
    rcases Nat.mod_two_eq_zero_or_one s with h0 | h1
    · by_cases hc : s + 1 < e
      · have ht : mz (f + 1) b s e = mz f ((b + 1) / 2) (s / 2) (e / 2) + 1 := by rw [mz, if_pos (.inr ⟨h0, hc⟩)]
        obtain ⟨a1, a2, a3, a4⟩ := ih (k + 1) ((b + 1) / 2) (s / 2) (e / 2) (by omega) (by omega) (by omega)
        have eL : pcs (f + 1) k b s = (if b % 2 = 1 then [(k, b)] else []) ++ pcs f (k + 1) ((b + 1) / 2) (s / 2) := by
          by_cases hbs : s ≤ b
          · obtain rfl : b = s := by omega
            rw [pcs_nil _ _ _ _ (Nat.le_refl _), if_neg (by omega), pcs_nil _ _ _ _ (by omega)]; rfl
          · rw [pcs, if_neg hbs, if_neg (show ¬ s % 2 = 1 by omega), List.append_nil]
        have eR : pcs (f + 1) k (s + 1) e = (k, s + 1) :: (pcs f (k + 1) (s / 2 + 1) (e / 2) ++ if e % 2 = 1 then [(k, e - 1)] else []) := by
          rw [pcs, if_neg (by omega), if_pos (show (s + 1) % 2 = 1 by omega), show (s + 1 + 1) / 2 = s / 2 + 1 by omega]; rfl
        rw [ht, ePE, eL, eR, a1, pop_half, h0, Nat.zero_add]
        generalize (if b % 2 = 1 then [(k, b)] else []) = X at *
        generalize (if e % 2 = 1 then [(k, e - 1)] else []) = Y at *
        generalize pcs f (k + 1) ((b + 1) / 2) (s / 2) = L at *
        generalize pcs f (k + 1) (s / 2 + 1) (e / 2) = R at *
        generalize mz f ((b + 1) / 2) (s / 2) (e / 2) = t at *
        have hpt : pop t (s / 2) ≤ t := pop_le _ _
        refine ⟨?_, by simp; omega, by simp; omega, fun j hj => ?_⟩
        · have e1 : (X ++ L).length - pop t (s / 2) = X.length + (L.length - pop t (s / 2)) := by simp; omega
          rw [e1, List.take_append, List.take_of_length_le (l := X) (by omega), Nat.add_sub_cancel_left, show t + 1 - pop t (s / 2) = (t - pop t (s / 2)) + 1 by omega, List.drop_succ_cons, List.drop_append_of_le_length a3, hq, show k + 1 + t = k + (t + 1) by omega]
          simp
        · cases j with
          | zero => exact ⟨fun h => absurd h (by rw [Nat.pow_zero, Nat.div_one]; omega), fun _ => by simp [pop]⟩
          | succ j =>
            obtain ⟨b1, b2⟩ := a4 j (by omega)
            rw [hq, pop_half, h0, Nat.zero_add]
            refine ⟨fun h => ?_, fun h => ?_⟩
            · obtain ⟨c1, c2⟩ := b1 h
              refine ⟨by simp; omega, ?_⟩
              have hi : (X ++ L).length - 1 - pop j (s / 2) = X.length + (L.length - 1 - pop j (s / 2)) := by simp; omega
              rw [hi, List.getElem?_append_right (by omega), Nat.add_sub_cancel_left, c2, show k + 1 + j = k + (j + 1) by omega]
            · have c2 := b2 h
              have hpj : pop j (s / 2) ≤ j := pop_le _ _
              rw [show j + 1 - pop j (s / 2) = (j - pop j (s / 2)) + 1 by omega, List.getElem?_cons_succ]
              rw [List.getElem?_append_left (by rcases Nat.lt_or_ge (j - pop j (s / 2)) R.length with h | h; exact h; rw [List.getElem?_eq_none h] at c2; cases c2), c2, show k + 1 + j = k + (j + 1) by omega]
      · obtain rfl : e = s + 1 := by omega
        have ht : mz (f + 1) b s (s + 1) = 0 := by rw [mz, if_neg (by omega)]
        have eL : pcs (f + 1) k b s = (if b % 2 = 1 then [(k, b)] else []) ++ pcs f (k + 1) ((b + 1) / 2) (s / 2) := by
          by_cases hbs : s ≤ b
          · obtain rfl : b = s := by omega
            rw [pcs_nil _ _ _ _ (Nat.le_refl _), if_neg (by omega), pcs_nil _ _ _ _ (by omega)]; rfl
          · rw [pcs, if_neg hbs, if_neg (show ¬ s % 2 = 1 by omega), List.append_nil]
        rw [ht, ePE, eL, pcs_nil _ _ _ _ (Nat.le_refl _), if_pos (show (s + 1) % 2 = 1 by omega), show (s + 1) / 2 = s / 2 by omega]
        refine ⟨?_, by simp [pop], by simp, fun j hj => absurd hj (by omega)⟩
        rw [show pop 0 s = 0 from rfl, Nat.sub_zero, List.take_length]
        simp
    · by_cases hc : b < s
      · have ht : mz (f + 1) b s e = mz f ((b + 1) / 2) (s / 2) (e / 2) + 1 := by rw [mz, if_pos (.inl ⟨h1, hc⟩)]
        obtain ⟨a1, a2, a3, a4⟩ := ih (k + 1) ((b + 1) / 2) (s / 2) (e / 2) (by omega) (by omega) (by omega)
        have eL : pcs (f + 1) k b s = (if b % 2 = 1 then [(k, b)] else []) ++ pcs f (k + 1) ((b + 1) / 2) (s / 2) ++ [(k, s - 1)] := by
          rw [pcs, if_neg (by omega), if_pos h1, List.append_assoc]
        have eR : pcs (f + 1) k (s + 1) e = pcs f (k + 1) (s / 2 + 1) (e / 2) ++ if e % 2 = 1 then [(k, e - 1)] else [] := by
          by_cases hse : e ≤ s + 1
          · obtain rfl : e = s + 1 := by omega
            rw [pcs_nil _ _ _ _ (Nat.le_refl _), if_neg (by omega), pcs_nil _ _ _ _ (by omega)]; rfl
          · rw [pcs, if_neg hse, if_neg (show ¬ (s + 1) % 2 = 1 by omega), show (s + 1 + 1) / 2 = s / 2 + 1 by omega]; rfl
        rw [ht, ePE, eL, eR, a1, pop_half, h1]
        generalize (if b % 2 = 1 then [(k, b)] else []) = X at *
        generalize (if e % 2 = 1 then [(k, e - 1)] else []) = Y at *
        generalize pcs f (k + 1) ((b + 1) / 2) (s / 2) = L at *
        generalize pcs f (k + 1) (s / 2 + 1) (e / 2) = R at *
        generalize mz f ((b + 1) / 2) (s / 2) (e / 2) = t at *
        have hpt : pop t (s / 2) ≤ t := pop_le _ _
        refine ⟨?_, by simp; omega, by simp; omega, fun j hj => ?_⟩
        · have e1 : (X ++ L ++ [(k, s - 1)]).length - (1 + pop t (s / 2)) = X.length + (L.length - pop t (s / 2)) := by simp; omega
          rw [e1, List.append_assoc X, List.take_append, List.take_of_length_le (l := X) (by omega), Nat.add_sub_cancel_left, List.take_append_of_le_length (by omega), show t + 1 - (1 + pop t (s / 2)) = t - pop t (s / 2) by omega, List.drop_append_of_le_length a3, hq, show k + 1 + t = k + (t + 1) by omega]
          simp
        · cases j with
          | zero =>
            refine ⟨fun _ => ⟨by simp [pop]; omega, ?_⟩, fun h => absurd h (by rw [Nat.pow_zero, Nat.div_one]; omega)⟩
            rw [List.getElem?_append_right (by simp [pop])]
            simp [pop]
          | succ j =>
            obtain ⟨b1, b2⟩ := a4 j (by omega)
            rw [hq, pop_half, h1]
            refine ⟨fun h => ?_, fun h => ?_⟩
            · obtain ⟨c1, c2⟩ := b1 h
              refine ⟨by simp; omega, ?_⟩
              have hi : (X ++ L ++ [(k, s - 1)]).length - 1 - (1 + pop j (s / 2)) = X.length + (L.length - 1 - pop j (s / 2)) := by simp; omega
              rw [hi, List.getElem?_append_left (by simp; omega), List.getElem?_append_right (by omega), Nat.add_sub_cancel_left, c2, show k + 1 + j = k + (j + 1) by omega]
            · have c2 := b2 h
              have hpj : pop j (s / 2) ≤ j := pop_le _ _
              rw [show j + 1 - (1 + pop j (s / 2)) = (j - pop j (s / 2)) by omega]
              rw [List.getElem?_append_left (by rcases Nat.lt_or_ge (j - pop j (s / 2)) R.length with h | h; exact h; rw [List.getElem?_eq_none h] at c2; cases c2), c2, show k + 1 + j = k + (j + 1) by omega]
      · obtain rfl : b = s := by omega
        have ht : mz (f + 1) b b e = 0 := by rw [mz, if_neg (by omega)]
        have eR : pcs (f + 1) k (b + 1) e = pcs f (k + 1) ((b + 1) / 2) (e / 2) ++ if e % 2 = 1 then [(k, e - 1)] else [] := by
          by_cases hse : e ≤ b + 1
          · obtain rfl : e = b + 1 := by omega
            rw [pcs_nil _ _ _ _ (Nat.le_refl _), if_neg (by omega), pcs_nil _ _ _ _ (by omega)]; rfl
          · rw [pcs, if_neg hse, if_neg (show ¬ (b + 1) % 2 = 1 by omega), show (b + 1 + 1) / 2 = (b + 1) / 2 by omega]; rfl
        rw [ht, ePE, eR, pcs_nil _ _ b b (Nat.le_refl _), if_pos h1]
        refine ⟨?_, by simp [pop], by simp, fun j hj => absurd hj (by omega)⟩
        simp [pop]
/-- The node over m of the level n lies within b and e. -/
def Cov (b m e n : Nat) : Prop := b ≤ m / 2 ^ n * 2 ^ n ∧ (m / 2 ^ n + 1) * 2 ^ n ≤ e
theorem cov_half (b m e n : Nat) : Cov b m e (n + 1) ↔ Cov ((b + 1) / 2) (m / 2) (e / 2) n := by
  unfold Cov
  rw [show m / 2 ^ (n + 1) = m / 2 / 2 ^ n by rw [Nat.div_div_eq_div_mul, show 2 * 2 ^ n = 2 ^ (n + 1) by rw [Nat.pow_succ, Nat.mul_comm]]]
  generalize m / 2 / 2 ^ n = q
  rw [Nat.pow_succ, ← Nat.mul_assoc, ← Nat.mul_assoc]
  generalize q * 2 ^ n = x
  generalize (q + 1) * 2 ^ n = y
  omega
theorem cov_not {b m e n : Nat} (h : m < b ∨ e ≤ m) : ¬ Cov b m e n := by
  rintro ⟨h1, h2⟩
  have hp := Nat.two_pow_pos n
  have a := Nat.div_mul_le_self m (2 ^ n)
  have b' := Nat.lt_div_mul_add hp (a := m)
  rw [Nat.add_mul, Nat.one_mul] at h2
  omega
theorem mz_cov : ∀ (f b s e : Nat), b ≤ s → s < e → e < 2 ^ f → ∀ n, Cov b s e n ↔ n ≤ mz f b s e := by
  intro f
  induction f with
  | zero => intro b s e _ h1 h2; simp at h2; omega
  | succ f ih =>
    intro b s e hb hs he n
    rw [Nat.pow_succ] at he
    cases n with
    | zero =>
      refine ⟨fun _ => Nat.zero_le _, fun _ => ?_⟩
      unfold Cov
      simp; omega
    | succ n =>
      rw [cov_half, mz]
      split
      · rw [ih _ _ _ (by omega) (by omega) (by omega)]; omega
      · refine ⟨fun h => absurd h (cov_not (by omega)), fun h => by omega⟩
/-- The level at which the path begins, and how many nodes are merged. -/
def jz : Nat → Nat → Nat → Nat → Nat × Nat
  | 0, _, _, _ => (0, 0)
  | f + 1, b, m, e => if m % 2 = 1 then (0, mz (f + 1) b m e) else if m / 2 < e / 2 then ((jz f ((b + 1) / 2) (m / 2) (e / 2)).1 + 1, (jz f ((b + 1) / 2) (m / 2) (e / 2)).2) else (0, 0)
theorem jz_cov : ∀ (f b m e : Nat), b ≤ m → m < e → e < 2 ^ f → (∀ n, Cov b m e n ↔ n ≤ (jz f b m e).1 + (jz f b m e).2) ∧ m % 2 ^ (jz f b m e).1 = 0 ∧ (0 < (jz f b m e).2 → m / 2 ^ (jz f b m e).1 % 2 = 1) ∧ (jz f b m e).1 < f := by
  intro f
  induction f with
  | zero => intro b s e _ h1 h2; simp at h2; omega
  | succ f ih =>
    intro b m e hb hm he
    rw [jz]
    by_cases h1 : m % 2 = 1
    · rw [if_pos h1]
      refine ⟨fun n => by rw [mz_cov (f + 1) b m e hb hm he, Nat.zero_add], Nat.mod_one _, fun _ => by rw [Nat.pow_zero, Nat.div_one]; exact h1, Nat.succ_pos _⟩
    · rw [if_neg h1]
      rw [Nat.pow_succ] at he
      have hc0 : Cov b m e 0 := by unfold Cov; simp; omega
      by_cases h2 : m / 2 < e / 2
      · rw [if_pos h2]
        obtain ⟨a1, a2, a3, a4⟩ := ih ((b + 1) / 2) (m / 2) (e / 2) (by omega) h2 (by omega)
        generalize jz f ((b + 1) / 2) (m / 2) (e / 2) = p at *
        obtain ⟨l, t⟩ := p
        simp only [] at a1 a2 a3 a4 ⊢
        have hq : m / 2 ^ (l + 1) = m / 2 / 2 ^ l := by rw [Nat.div_div_eq_div_mul, show 2 * 2 ^ l = 2 ^ (l + 1) by rw [Nat.pow_succ, Nat.mul_comm]]
        refine ⟨fun n => ?_, ?_, fun h => by rw [hq]; exact a3 h, by omega⟩
        · cases n with
          | zero => exact ⟨fun _ => Nat.zero_le _, fun _ => hc0⟩
          | succ n => rw [cov_half, a1]; omega
        · have hp := Nat.two_pow_pos l
          have e1 := Nat.div_add_mod (m / 2) (2 ^ l)
          rw [a2, Nat.add_zero] at e1
          have e2 : m = 2 ^ (l + 1) * (m / 2 / 2 ^ l) := by rw [Nat.pow_succ, Nat.mul_assoc, Nat.mul_left_comm, e1]; omega
          rw [e2]
          exact Nat.mul_mod_right _ _
      · rw [if_neg h2]
        refine ⟨fun n => ?_, Nat.mod_one _, fun h => absurd h (by simp), Nat.succ_pos _⟩
        cases n with
        | zero => exact ⟨fun _ => Nat.zero_le _, fun _ => hc0⟩
        | succ n =>
          rw [cov_half]
          exact ⟨fun h => absurd h (cov_not (by omega)), fun h => by omega⟩
theorem jz_pcs : ∀ (f k b m e : Nat), b ≤ m → m < e → e < 2 ^ f → ∀ l t, jz f b m e = (l, t) →
    ∃ R, pcs f k m e = (k + l, m / 2 ^ l) :: R ∧
    pcs f k b e = (pcs f k b m).take ((pcs f k b m).length - pop t (m / 2 ^ l)) ++ (k + l + t, m / 2 ^ (l + t)) :: R.drop (t - pop t (m / 2 ^ l)) ∧
    pop t (m / 2 ^ l) ≤ (pcs f k b m).length ∧ t - pop t (m / 2 ^ l) ≤ R.length ∧
    ∀ j, j < t → (m / 2 ^ (l + j) % 2 = 1 → pop j (m / 2 ^ l) < (pcs f k b m).length ∧ (pcs f k b m)[(pcs f k b m).length - 1 - pop j (m / 2 ^ l)]? = some (k + l + j, m / 2 ^ (l + j) - 1)) ∧
      (m / 2 ^ (l + j) % 2 = 0 → R[j - pop j (m / 2 ^ l)]? = some (k + l + j, m / 2 ^ (l + j) + 1)) := by
  intro f
  induction f with
  | zero => intro k b m e _ h1 h2; simp at h2; omega
  | succ f ih =>
    intro k b m e hb hm he l t hj
    rw [jz] at hj
    by_cases h1 : m % 2 = 1
    · rw [if_pos h1] at hj
      injection hj with hl ht
      subst hl
      obtain ⟨a1, a2, a3, a4⟩ := mz_pcs (f + 1) k b m e hb hm he
      rw [ht] at a1 a2 a3 a4
      rw [Nat.pow_zero, Nat.div_one, Nat.add_zero, Nat.zero_add]
      refine ⟨pcs (f + 1) k (m + 1) e, ?_, a1, a2, a3, fun j hj => by rw [Nat.zero_add]; exact a4 j hj⟩
      have := pcs_cons (f + 1) k m e 0 hm he (Nat.mod_one _) (by omega) (.inl (by omega))
      simpa using this
    · rw [if_neg h1] at hj
      rw [Nat.pow_succ] at he
      have eL : pcs (f + 1) k b m = (if b % 2 = 1 then [(k, b)] else []) ++ pcs f (k + 1) ((b + 1) / 2) (m / 2) := by
        by_cases hbs : m ≤ b
        · obtain rfl : b = m := by omega
          rw [pcs_nil _ _ _ _ (Nat.le_refl _), if_neg (by omega), pcs_nil _ _ _ _ (by omega)]; rfl
        · rw [pcs, if_neg hbs, if_neg h1, List.append_nil]
      have eR : pcs (f + 1) k m e = pcs f (k + 1) (m / 2) (e / 2) ++ if e % 2 = 1 then [(k, e - 1)] else [] := by
        rw [pcs, if_neg (by omega), if_neg h1, show (m + 1) / 2 = m / 2 by omega]; rfl
      have ePE : pcs (f + 1) k b e = (if b % 2 = 1 then [(k, b)] else []) ++ (pcs f (k + 1) ((b + 1) / 2) (e / 2) ++ if e % 2 = 1 then [(k, e - 1)] else []) := by rw [pcs, if_neg (by omega)]
      by_cases h2 : m / 2 < e / 2
      · rw [if_pos h2] at hj
        obtain ⟨R, a0, a1, a2, a3, a4⟩ := ih (k + 1) ((b + 1) / 2) (m / 2) (e / 2) (by omega) h2 (by omega) _ _ rfl
        generalize jz f ((b + 1) / 2) (m / 2) (e / 2) = p at *
        obtain ⟨l', t'⟩ := p
        injection hj with hl ht
        simp only [] at a0 a1 a2 a3 a4 hl ht
        subst hl ht
        have hq : ∀ j, m / 2 ^ (j + 1) = m / 2 / 2 ^ j := fun j => by rw [Nat.div_div_eq_div_mul, show 2 * 2 ^ j = 2 ^ (j + 1) by rw [Nat.pow_succ, Nat.mul_comm]]
        rw [eL, eR, ePE, a0, a1]
        generalize (if b % 2 = 1 then [(k, b)] else []) = X at *
        generalize (if e % 2 = 1 then [(k, e - 1)] else []) = Y at *
        generalize pcs f (k + 1) ((b + 1) / 2) (m / 2) = L at *
        rw [hq l', show l' + 1 + t' = l' + t' + 1 by omega, hq (l' + t'), show k + 1 + l' = k + (l' + 1) by omega]
        rw [show k + 1 + l' = k + (l' + 1) by omega] at a4
        generalize m / 2 / 2 ^ l' = s at *
        refine ⟨R ++ Y, by simp, ?_, by simp; omega, by simp; omega, fun j hj => ?_⟩
        · have e1 : (X ++ L).length - pop t' s = X.length + (L.length - pop t' s) := by simp; omega
          rw [e1, List.take_append, List.take_of_length_le (l := X) (by omega), Nat.add_sub_cancel_left, List.drop_append_of_le_length a3]
          simp
        · obtain ⟨b1, b2⟩ := a4 j hj
          rw [show l' + 1 + j = l' + j + 1 by omega, hq]
          refine ⟨fun h => ?_, fun h => ?_⟩
          · obtain ⟨c1, c2⟩ := b1 h
            refine ⟨by simp; omega, ?_⟩
            have hi : (X ++ L).length - 1 - pop j s = X.length + (L.length - 1 - pop j s) := by simp; omega
            rw [hi, List.getElem?_append_right (by omega), Nat.add_sub_cancel_left, c2]
          · have c2 := b2 h
            rw [List.getElem?_append_left (by rcases Nat.lt_or_ge (j - pop j s) R.length with h | h; exact h; rw [List.getElem?_eq_none h] at c2; cases c2), c2]
      · rw [if_neg h2] at hj
        injection hj with hl ht
        subst hl ht
        obtain rfl : e = m + 1 := by omega
        rw [eL, eR, ePE, show (m + 1) / 2 = m / 2 by omega, pcs_nil _ _ (m / 2) _ (Nat.le_refl _), if_pos (show (m + 1) % 2 = 1 by omega)]
        refine ⟨[], by simp, ?_, by simp [pop], by simp, fun j hj => absurd hj (by omega)⟩
        rw [show pop 0 (m / 2 ^ 0) = 0 from rfl, Nat.sub_zero, List.take_length]
        simp
end Go.Proofs.YtpdmmmcelkinjaaFmt.Pl
/- The hashes of the pieces of a range, as one more leaf is put behind it. -/
open Go
namespace Go.Proofs.YtpdmmmcelkinjaaFmt.Pl
/-- The hash of a node. -/
def gv (h : HF) (f : Nat → List Nat) (p : Nat × Nat) : List Nat := mr h f (p.2 * 2 ^ p.1) (2 ^ p.1)
/-- The hashes of the pieces. -/
def ph (h : HF) (f : Nat → List Nat) (b e : Nat) : List (List Nat) := (pieces b e).map (gv h f)
theorem ph_length (h : HF) (f : Nat → List Nat) (b e : Nat) : (ph h f b e).length = (pieces b e).length := by simp [ph]
theorem seed_zero (h : HF) (f : Nat → List Nat) (e : Nat) : gv h f (0, e / 2 ^ 0) = f e := by
  unfold gv
  rw [Nat.pow_zero, Nat.div_one, Nat.mul_one, mr_one]
theorem seed_step (h : HF) (f : Nat → List Nat) {e j : Nat} (ho : e / 2 ^ j % 2 = 1) : gv h f (j + 1, e / 2 ^ (j + 1)) = h.hc (gv h f (j, e / 2 ^ j - 1)) (gv h f (j, e / 2 ^ j)) := by
  have hq : e / 2 ^ (j + 1) = e / 2 ^ j / 2 := by rw [Nat.div_div_eq_div_mul, ← Nat.pow_succ]
  rw [hq]
  generalize e / 2 ^ j = q at *
  have hp := Nat.two_pow_pos j
  obtain ⟨r, hr⟩ : ∃ r, q = 2 * r + 1 := ⟨q / 2, by omega⟩
  subst hr
  rw [show (2 * r + 1) / 2 = r by omega, Nat.add_sub_cancel]
  unfold gv
  simp only []
  rw [mr_two h f _ _ (by rw [Nat.pow_succ]; omega), split_pow]
  have e1 : r * 2 ^ (j + 1) = 2 * r * 2 ^ j := by rw [Nat.pow_succ, Nat.mul_comm (2 ^ j) 2, ← Nat.mul_assoc, Nat.mul_comm r 2]
  have e2 : (2 * r + 1) * 2 ^ j = 2 * r * 2 ^ j + 2 ^ j := by rw [Nat.add_mul, Nat.one_mul]
  have e3 : 2 ^ (j + 1) - 2 ^ j = 2 ^ j := by rw [Nat.pow_succ]; omega
  rw [e1, e2, e3]
/-- How many pieces are merged. -/
def mg (b e : Nat) : Nat := tmg 64 b e
/-- One more leaf. -/
theorem ph_grow (h : HF) (f : Nat → List Nat) {b e : Nat} (hb : b ≤ e) (he : e + 1 < 18446744073709551616) :
    ph h f b (e + 1) = (ph h f b e).take ((ph h f b e).length - mg b e) ++ [gv h f (mg b e, e / 2 ^ mg b e)] ∧ mg b e ≤ (ph h f b e).length ∧
      ∀ j, j < mg b e → (ph h f b e)[(ph h f b e).length - 1 - j]? = some (gv h f (j, e / 2 ^ j - 1)) ∧ e / 2 ^ j % 2 = 1 := by
  obtain ⟨a1, a2, a3⟩ := pcs_grow 64 0 b e hb (by omega)
  rw [ph_length]
  unfold ph pieces mg
  refine ⟨?_, a2, fun j hj => ?_⟩
  · rw [a1, List.map_append, List.map_take, Nat.zero_add]; rfl
  · obtain ⟨b1, b2⟩ := a3 j hj
    rw [Nat.zero_add] at b1
    exact ⟨by rw [List.getElem?_map, b1]; rfl, b2⟩
theorem pieces_grow {b e : Nat} (hb : b ≤ e) (he : e + 1 < 18446744073709551616) : pieces b (e + 1) = (pieces b e).take ((pieces b e).length - mg b e) ++ [(mg b e, e / 2 ^ mg b e)] := by
  obtain ⟨a1, _, _⟩ := pcs_grow 64 0 b e hb (by omega)
  unfold pieces mg
  rw [a1, Nat.zero_add]
/-- The nodes that are told as a leaf is put behind a range: the leaf, and each node that is merged. -/
def grownAt (b e : Nat) : List (Nat × Nat) := (List.range (mg b e + 1)).map fun j => (j, e / 2 ^ j)
end Go.Proofs.YtpdmmmcelkinjaaFmt.Pl
/- The hashes of two ranges, one behind the other, as they are merged: in plain numbers. -/
open Go
namespace Go.Proofs.YtpdmmmcelkinjaaFmt.Pl
theorem seed_step0 (h : HF) (f : Nat → List Nat) {e j : Nat} (ho : e / 2 ^ j % 2 = 0) : gv h f (j + 1, e / 2 ^ (j + 1)) = h.hc (gv h f (j, e / 2 ^ j)) (gv h f (j, e / 2 ^ j + 1)) := by
  have hq : e / 2 ^ (j + 1) = e / 2 ^ j / 2 := by rw [Nat.div_div_eq_div_mul, ← Nat.pow_succ]
  rw [hq]
  generalize e / 2 ^ j = q at *
  have hp := Nat.two_pow_pos j
  obtain ⟨r, hr⟩ : ∃ r, q = 2 * r := ⟨q / 2, by omega⟩
  subst hr
  rw [show 2 * r / 2 = r by omega]
  unfold gv
  simp only []
  rw [mr_two h f _ _ (by rw [Nat.pow_succ]; omega), split_pow]
  have e1 : r * 2 ^ (j + 1) = 2 * r * 2 ^ j := by rw [Nat.pow_succ, Nat.mul_comm (2 ^ j) 2, ← Nat.mul_assoc, Nat.mul_comm r 2]
  have e2 : (2 * r + 1) * 2 ^ j = 2 * r * 2 ^ j + 2 ^ j := by rw [Nat.add_mul, Nat.one_mul]
  have e3 : 2 ^ (j + 1) - 2 ^ j = 2 ^ j := by rw [Nat.pow_succ]; omega
  rw [e1, e2, e3]
/-- The seed after j merges: x tells from which side the neighbour comes. -/
def sdv (h : HF) (H1 H2 : List (List Nat)) (x : Nat) (s0 : List Nat) : Nat → List Nat
  | 0 => s0
  | j + 1 => if x / 2 ^ j % 2 = 0 then h.hc (sdv h H1 H2 x s0 j) (H2.getD (j - pop j x) []) else h.hc (H1.getD (H1.length - 1 - pop j x) []) (sdv h H1 H2 x s0 j)
/-- The hashes after t merges. -/
def merged (h : HF) (H1 H2 : List (List Nat)) (x : Nat) (s0 : List Nat) (t : Nat) : List (List Nat) := H1.take (H1.length - pop t x) ++ sdv h H1 H2 x s0 t :: H2.drop (t - pop t x)
/-- The nodes that are told. -/
def toldM (h : HF) (H1 H2 : List (List Nat)) (x : Nat) (s0 : List Nat) (lo t : Nat) : List (Nat × Nat × List Nat) := (List.range t).map fun j => (lo + j + 1, x / 2 ^ (j + 1), sdv h H1 H2 x s0 (j + 1))
theorem toldM_succ (h : HF) (H1 H2 : List (List Nat)) (x : Nat) (s0 : List Nat) (lo t : Nat) : toldM h H1 H2 x s0 lo (t + 1) = toldM h H1 H2 x s0 lo t ++ [(lo + t + 1, x / 2 ^ (t + 1), sdv h H1 H2 x s0 (t + 1))] := by
  unfold toldM
  rw [List.range_succ, List.map_append]
  rfl
theorem div_pow_add (m a c : Nat) : m / 2 ^ (a + c) = m / 2 ^ a / 2 ^ c := by rw [Nat.div_div_eq_div_mul, Nat.pow_add]
theorem merge_law (h : HF) (f : Nat → List Nat) {b m e l t : Nat} (hb : b ≤ m) (hm : m < e) (he : e < 18446744073709551616) (hj : jz 64 b m e = (l, t)) :
    ∃ s0 H2, ph h f m e = s0 :: H2 ∧ s0 = gv h f (l, m / 2 ^ l) ∧ merged h (ph h f b m) H2 (m / 2 ^ l) s0 t = ph h f b e ∧ pop t (m / 2 ^ l) ≤ (ph h f b m).length ∧ t - pop t (m / 2 ^ l) ≤ H2.length ∧
      ∀ j, j ≤ t → sdv h (ph h f b m) H2 (m / 2 ^ l) s0 j = gv h f (l + j, m / 2 ^ (l + j)) := by
  obtain ⟨R, a0, a1, a2, a3, a4⟩ := jz_pcs 64 0 b m e hb hm (by omega) l t hj
  have hs : ∀ j, j ≤ t → sdv h (ph h f b m) (R.map (gv h f)) (m / 2 ^ l) (gv h f (l, m / 2 ^ l)) j = gv h f (l + j, m / 2 ^ (l + j)) := by
    intro j
    induction j with
    | zero => intro _; rfl
    | succ j ih =>
      intro hjt
      obtain ⟨b1, b2⟩ := a4 j (by omega)
      rw [sdv, ih (by omega), ← div_pow_add]
      rcases Nat.mod_two_eq_zero_or_one (m / 2 ^ (l + j)) with h0 | h1
      · rw [if_pos h0, ← Nat.add_assoc, seed_step0 h f h0]
        have c2 := b2 h0
        rw [List.getD_eq_getElem?_getD, List.getElem?_map, c2, Nat.zero_add]
        rfl
      · rw [if_neg (by omega), ← Nat.add_assoc, seed_step h f h1]
        obtain ⟨_, c2⟩ := b1 h1
        unfold ph pieces
        rw [List.getD_eq_getElem?_getD, List.getElem?_map, List.length_map, c2, Nat.zero_add]
        rfl
  refine ⟨gv h f (l, m / 2 ^ l), R.map (gv h f), ?_, rfl, ?_, by rw [ph_length]; exact a2, by simpa using a3, hs⟩
  · unfold ph pieces
    rw [a0, Nat.zero_add]; rfl
  · unfold merged
    rw [hs t (Nat.le_refl _)]
    unfold ph pieces
    rw [a1, List.map_append, List.map_take, List.length_map, List.map_cons, List.map_drop, Nat.zero_add]
theorem jz_one (b m : Nat) : (jz 64 b m (m + 1)).1 = 0 := by
  rw [jz]
  split
  · rfl
  · rw [if_neg (by omega)]
theorem ph_one (h : HF) (f : Nat → List Nat) {m : Nat} (he : m + 1 < 18446744073709551616) : ph h f m (m + 1) = [f m] := by
  unfold ph pieces
  rw [pcs_one 64 0 m (by omega)]
  show [gv h f (0, m)] = _
  have := seed_zero h f m
  rw [Nat.pow_zero, Nat.div_one] at this
  rw [this]
end Go.Proofs.YtpdmmmcelkinjaaFmt.Pl
/- The root of a range from 0 on is folded of the hashes of its pieces. -/
namespace Go.Proofs.YtpdmmmcelkinjaaFmt
namespace Pl
/-- Folded from the right. -/
def pfold (h : HF) : List (List Nat) → List Nat
  | [] => []
  | [x] => x
  | x :: y :: r => h.hc x (pfold h (y :: r))
theorem pfold_cons (h : HF) (x : List Nat) (r : List (List Nat)) (hr : 0 < r.length) : pfold h (x :: r) = h.hc x (pfold h r) := by
  cases r with
  | nil => simp at hr
  | cons y r => rfl
def nv (h : HF) (f : Nat → List Nat) (p : Nat × Nat) : List Nat := mr h f (p.2 * 2 ^ p.1) (2 ^ p.1)
theorem mr_pieces (h : HF) (f : Nat → List Nat) (e : Nat) (he : e < 18446744073709551616) : ∀ (n a K : Nat), e - a = n → a < e → a % 2 ^ K = 0 → e - a ≤ 2 ^ K → mr h f a (e - a) = pfold h ((pieces a e).map (nv h f)) := by
  intro n
  induction n using Nat.strongRecOn with
  | ind n ih =>
    intro a K hn hlt hK hle
    obtain ⟨l, hl, ⟨g1, g2, g3⟩, hst, hdv, hle2⟩ := pieces_step hlt he
    have hp := Nat.two_pow_pos l
    rw [hst, List.map_cons]
    have hv : nv h f (l, a / 2 ^ l) = mr h f a (2 ^ l) := by unfold nv; simp only [hdv]
    rw [hv]
    by_cases h1 : e - a = 2 ^ l
    · rw [pieces_nil (b := a + 2 ^ l) (e := e) (by omega), h1]; rfl
    · have hlK : l < K := by
        rcases Nat.lt_or_ge l K with h | h
        · exact h
        · have := Nat.pow_le_pow_right (n := 2) (by decide) h; omega
      have ha : a % 2 ^ (l + 1) = 0 := by
        have : 2 ^ K = 2 ^ (l + 1) * 2 ^ (K - (l + 1)) := by rw [← Nat.pow_add]; congr 1; omega
        rw [this] at hK
        exact Nat.mod_eq_zero_of_dvd (Nat.dvd_trans ⟨_, rfl⟩ (Nat.dvd_of_mod_eq_zero hK))
      have hub : e - a < 2 ^ (l + 1) := by
        rcases g3 with h | h
        · exact absurd ha h
        · exact h
      have hsp : split (e - a) = 2 ^ l := split_eq (by omega) (by omega)
      have hn2 : 2 ≤ e - a := by omega
      have hrest : 0 < ((pieces (a + 2 ^ l) e).map (nv h f)).length := by
        rw [List.length_map]
        rcases Nat.eq_zero_or_pos (pieces (a + 2 ^ l) e).length with h0 | h0
        · rw [pieces_empty he] at h0; omega
        · exact h0
      rw [pfold_cons _ _ _ hrest, mr_two _ _ _ _ hn2, hsp, show e - a - 2 ^ l = e - (a + 2 ^ l) by omega]
      rw [ih (e - (a + 2 ^ l)) (by omega) (a + 2 ^ l) l rfl (by omega) (by rw [Nat.add_mod, g1, Nat.mod_self]; simp) (by rw [Nat.pow_succ] at hub; omega)]
end Pl
end Go.Proofs.YtpdmmmcelkinjaaFmt
/- The nodes at the right border of a tree, in plain numbers. -/
namespace Go.Proofs.YtpdmmmcelkinjaaFmt
namespace Pl
/-- Pieces one behind the other from a up to e, each less than the one before. -/
def Desc : List (Nat × Nat) → Nat → Nat → Prop
  | [], a, e => a = e
  | p :: P, a, e => p.2 * 2 ^ p.1 = a ∧ a % 2 ^ (p.1 + 1) = 0 ∧ e - a < 2 ^ (p.1 + 1) ∧ a + 2 ^ p.1 ≤ e ∧ (∀ q ∈ P, q.1 < p.1) ∧ Desc P (a + 2 ^ p.1) e
theorem desc_lt {P : List (Nat × Nat)} {a e K : Nat} (h : Desc P a e) (hK : e - a < 2 ^ K) : ∀ q ∈ P, q.1 < K := by
  cases P with
  | nil => intro q hq; cases hq
  | cons p P =>
    obtain ⟨_, _, _, h4, h5, _⟩ := h
    have hp : p.1 < K := by
      rcases Nat.lt_or_ge p.1 K with h | h
      · exact h
      · have := Nat.pow_le_pow_right (n := 2) (by decide) h; omega
    intro q hq
    rcases List.mem_cons.1 hq with rfl | hq
    · exact hp
    · have := h5 q hq; omega
theorem desc_pieces (e : Nat) (he : e < 18446744073709551616) : ∀ (n a K : Nat), e - a = n → a ≤ e → a % 2 ^ K = 0 → e - a < 2 ^ K → Desc (pieces a e) a e := by
  intro n
  induction n using Nat.strongRecOn with
  | ind n ih =>
    intro a K hn hle hK hlt
    rcases Nat.lt_or_ge a e with h | h
    · obtain ⟨l, hl, ⟨g1, g2, g3⟩, hst, hdv, hle2⟩ := pieces_step h he
      have hp := Nat.two_pow_pos l
      have hlK : l < K := by
        rcases Nat.lt_or_ge l K with h | h
        · exact h
        · have := Nat.pow_le_pow_right (n := 2) (by decide) h; omega
      have ha : a % 2 ^ (l + 1) = 0 := by
        have : 2 ^ K = 2 ^ (l + 1) * 2 ^ (K - (l + 1)) := by rw [← Nat.pow_add]; congr 1; omega
        rw [this] at hK
        exact Nat.mod_eq_zero_of_dvd (Nat.dvd_trans ⟨_, rfl⟩ (Nat.dvd_of_mod_eq_zero hK))
      have hub : e - a < 2 ^ (l + 1) := by
        rcases g3 with h | h
        · exact absurd ha h
        · exact h
      have hrest : e - (a + 2 ^ l) < 2 ^ l := by rw [Nat.pow_succ] at hub; omega
      have hd := ih (e - (a + 2 ^ l)) (by omega) (a + 2 ^ l) l rfl (by omega) (by rw [Nat.add_mod, g1, Nat.mod_self]; simp) hrest
      rw [hst]
      exact ⟨hdv, ha, hub, hle2, desc_lt hd hrest, hd⟩
    · obtain rfl : a = e := by omega
      rw [show pieces a a = [] from pcs_nil _ _ _ _ (Nat.le_refl _)]
      rfl
/-- Where the piece number k begins. -/
def pos : List (Nat × Nat) → Nat → Nat → Nat
  | _, a, 0 => a
  | [], a, _ + 1 => a
  | p :: P, a, k + 1 => pos P (a + 2 ^ p.1) k
theorem pos_desc : ∀ (P : List (Nat × Nat)) (a e : Nat), Desc P a e → ∀ k (hk : k < P.length), P[k].2 * 2 ^ P[k].1 = pos P a k ∧ pos P a k % 2 ^ (P[k].1 + 1) = 0 ∧ e - pos P a k < 2 ^ (P[k].1 + 1) ∧ pos P a k + 2 ^ P[k].1 ≤ e ∧ pos P a (k + 1) = pos P a k + 2 ^ P[k].1 ∧ ∀ j (hj : j < P.length), k < j → P[j].1 < P[k].1 := by
  intro P
  induction P with
  | nil => intro a e _ k hk; simp at hk
  | cons p P ih =>
    intro a e h k hk
    obtain ⟨h1, h2, h3, h4, h5, h6⟩ := h
    cases k with
    | zero =>
      refine ⟨h1, h2, h3, h4, ?_, fun j hj hkj => ?_⟩
      · cases P <;> rfl
      · cases j with
        | zero => omega
        | succ j => exact h5 _ (List.getElem_mem _)
    | succ k =>
      have := ih (a + 2 ^ p.1) e h6 k (by simpa using hk)
      obtain ⟨b1, b2, b3, b4, b5, b6⟩ := this
      refine ⟨b1, b2, b3, b4, b5, fun j hj hkj => ?_⟩
      cases j with
      | zero => omega
      | succ j => exact b6 j (by simpa using hj) (by omega)
theorem pos_end : ∀ (P : List (Nat × Nat)) (a e : Nat), Desc P a e → pos P a P.length = e := by
  intro P
  induction P with
  | nil => intro a e h; exact h
  | cons p P ih => intro a e h; exact ih _ _ h.2.2.2.2.2
theorem drop_pieces (e : Nat) (he : e < 18446744073709551616) : ∀ (k a : Nat), k ≤ (pieces a e).length → (pieces a e).drop k = pieces (pos (pieces a e) a k) e := by
  intro k
  induction k with
  | zero =>
    intro a _
    rw [show pos (pieces a e) a 0 = a by cases pieces a e <;> rfl]
    rfl
  | succ k ih =>
    intro a hk
    rcases Nat.lt_or_ge a e with h | h
    · obtain ⟨l, hl, _, hst, hdv, hle2⟩ := pieces_step h he
      rw [hst] at hk ⊢
      rw [List.drop_succ_cons]
      exact ih _ (by simpa using hk)
    · rw [show pieces a e = [] from pcs_nil _ _ _ _ h] at hk; simp at hk
/-- A number's least bit is struck. -/
theorem and_pred {A b : Nat} (h : A % 2 ^ (b + 1) = 0) : (A + 2 ^ b) &&& (A + 2 ^ b - 1) = A := by
  have hp := Nat.two_pow_pos b
  obtain ⟨q, rfl⟩ := Nat.dvd_of_mod_eq_zero h
  apply Nat.eq_of_testBit_eq
  intro i
  have e1 : 2 ^ (b + 1) * q + 2 ^ b - 1 = 2 ^ (b + 1) * q + (2 ^ b - 1) := by omega
  have hlt : 2 ^ b < 2 ^ (b + 1) := by rw [Nat.pow_succ]; omega
  rw [Nat.testBit_and, e1, Nat.testBit_two_pow_mul_add q hlt, Nat.testBit_two_pow_mul_add q (by omega), Nat.testBit_two_pow_mul]
  by_cases hi : i < b + 1
  · simp only [hi, if_true]
    have hge : ¬ b + 1 ≤ i := by omega
    simp only [hge, decide_false, Bool.false_and]
    rw [Nat.testBit_two_pow, Nat.testBit_two_pow_sub_one]
    by_cases hb : b = i
    · subst hb; simp
    · simp [hb]
  · have hge : b + 1 ≤ i := by omega
    simp [hi, hge]
/-- The node that is told when the piece k is merged with all behind it. -/
def edge (h : HF) (P : List (Nat × Nat)) (H : List (List Nat)) (k : Nat) : Nat × Nat × List Nat := ((P.getD k (0, 0)).1 + 1, pos P 0 (k + 1) / 2 ^ ((P.getD k (0, 0)).1 + 1), pfold h (H.drop k))
/-- The nodes that are told till the piece k is merged. -/
def edges (h : HF) (P : List (Nat × Nat)) (H : List (List Nat)) (k : Nat) : List (Nat × Nat × List Nat) := (List.range (P.length - 1 - k)).map fun j => edge h P H (P.length - 2 - j)
theorem edges_step (h : HF) (P : List (Nat × Nat)) (H : List (List Nat)) (k : Nat) (hk : k + 1 < P.length) : edges h P H k = edges h P H (k + 1) ++ [edge h P H k] := by
  unfold edges
  rw [show P.length - 1 - k = (P.length - 1 - (k + 1)) + 1 by omega, List.range_succ, List.map_append]
  simp only [List.map_cons, List.map_nil]
  rw [show P.length - 2 - (P.length - 1 - (k + 1)) = k by omega]
theorem edges_start (h : HF) (P : List (Nat × Nat)) (H : List (List Nat)) : edges h P H (P.length - 1) = [] := by
  unfold edges
  rw [Nat.sub_self]; rfl
/-- The index of the node of the edge, and the leaves that it covers. -/
theorem edge_spec (h : HF) (f : Nat → List Nat) (e : Nat) (he : e < 18446744073709551616) (k : Nat) (hk : k + 1 < (pieces 0 e).length) :
    ∃ l i, edge h (pieces 0 e) (ph h f 0 e) k = (l, i, mr h f (i * 2 ^ l) (e - i * 2 ^ l)) ∧ l ≤ 64 ∧ i * 2 ^ l < e ∧ e < (i + 1) * 2 ^ l ∧ l = ((pieces 0 e).getD k (0, 0)).1 + 1 := by
  have hd := desc_pieces e he (e - 0) 0 64 rfl (Nat.zero_le _) (Nat.zero_mod _) (by omega)
  obtain ⟨b1, b2, b3, b4, b5, b6⟩ := pos_desc _ _ _ hd k (by omega)
  have hl := desc_lt hd (K := 64) (by omega) _ (List.getElem_mem (show k < (pieces 0 e).length by omega))
  have hdp := drop_pieces e he k 0 (by omega)
  have hgd : (pieces 0 e).getD k (0, 0) = (pieces 0 e)[k]'(by omega) := by rw [List.getD_eq_getElem?_getD, List.getElem?_eq_getElem (by omega)]; rfl
  have hH : (ph h f 0 e).drop k = (pieces (pos (pieces 0 e) 0 k) e).map (gv h f) := by unfold ph; rw [← List.map_drop, hdp]
  unfold edge
  rw [hgd, hH, b5]
  generalize (pieces 0 e)[k]'(by omega) = p at *
  generalize pos (pieces 0 e) 0 k = a at *
  obtain ⟨l, i⟩ := p
  simp only [] at b1 b2 b3 b4 hl ⊢
  obtain ⟨q, hq⟩ := Nat.dvd_of_mod_eq_zero b2
  have hpl := Nat.two_pow_pos l
  have e1 : (a + 2 ^ l) / 2 ^ (l + 1) = q := by
    rw [hq]
    apply Nat.div_eq_of_lt_le
    · rw [Nat.mul_comm]; omega
    · rw [Nat.add_mul, Nat.one_mul, Nat.mul_comm q, Nat.pow_succ]; omega
  rw [e1]
  have e2 : q * 2 ^ (l + 1) = a := by rw [hq, Nat.mul_comm]
  refine ⟨l + 1, q, ?_, by omega, by rw [e2]; omega, by rw [Nat.add_mul, Nat.one_mul, e2]; omega, rfl⟩
  rw [e2]
  have hK : a % 2 ^ (l + 1) = 0 := b2
  have := mr_pieces h f e he (e - a) a (l + 1) rfl (by omega) hK (by omega)
  rw [this]
  rfl
/-- The root. -/
theorem root_spec (h : HF) (f : Nat → List Nat) (e : Nat) (he : e < 18446744073709551616) (h0 : 0 < e) : pfold h (ph h f 0 e) = mr h f 0 e := by
  have := mr_pieces h f e he e 0 64 (by omega) h0 (Nat.zero_mod _) (by omega)
  rw [Nat.sub_zero] at this
  rw [this]
  rfl
end Pl
end Go.Proofs.YtpdmmmcelkinjaaFmt
