/- append(append([][]byte{}, xs...), ys...): a row of one's own that holds slices that came in. -/
import Derived.Test.YtpdmmmcelkinjaaFmtAppend
import Derived.Test.YtpdmmmcelkinjaaFmtRangeT
namespace Go.Proofs.YtpdmmmcelkinjaaFmt
open Go.ChangeShapes Go.WideShapes Go.ChangeAt Go.RowKit
set_option maxRecDepth 20000
/-- A row of one's own; the hashes that its slices hold lie in a world that stays as it was. -/
def AllR (W0 w : World) (base : Nat) (v : Value) (L : List (List Nat)) : Prop :=
  Below W0.heap.size W0 w ∧ W0.heap.size ≤ base ∧ base ≤ w.heap.size ∧ ∃ us : List Value, us.length = L.length ∧ w.ownsRow base 28 1 v L.length us ∧ ∀ (k : Nat) (u : Value) (l : List Nat), us[k]? = some u → L[k]? = some l → BytesR W0 u l
theorem AllR.start {W0 w : World} (hb : Below W0.heap.size W0 w) (hs : W0.heap.size ≤ w.heap.size) : AllR W0 (w.alloc (.cells #[] 28)) w.heap.size (.slice (some ⟨w.heap.size, 0, none⟩) 0 0) [] := by
  refine ⟨hb.alloc hs _, hs, by simp, [], rfl, World.ownsRow_lit _ _ 0 (Nat.le_refl _) (by unfold maxLen; omega) rfl, fun k u l hu => by simp at hu⟩
theorem AllR.form {W0 w : World} {base : Nat} {v : Value} {L : List (List Nat)} (h : AllR W0 w base v L) : ∃ A c, v = .slice A L.length c := by
  obtain ⟨_, _, _, us, _, ho, _⟩ := h
  obtain ⟨A, c, e, _⟩ := own_slice ho
  exact ⟨A, c, e⟩
theorem AllR.hashes {W0 w : World} {base : Nat} {v : Value} {L : List (List Nat)} (h : AllR W0 w base v L) : HashesR w v L := by
  obtain ⟨hb, _, _, us, hl, ho, hu⟩ := h
  obtain ⟨A, c, rfl, hc⟩ := own_slice ho
  refine ⟨A, c, rfl, hc, fun x hx => ?_, fun h0 => ?_⟩
  · obtain ⟨k, hk, rfl⟩ := List.getElem_of_mem hx
    exact (hu k us[k] L[k] (List.getElem?_eq_getElem (by omega)) (List.getElem?_eq_getElem hk)).bytes
  · rcases own_cases ho with ⟨h1, _⟩ | ⟨_, g, c', e, _⟩
    · omega
    · injection e with e1 _ e3
      subst e1 e3
      refine ⟨g, 0, rfl, fun k hk => ⟨us[k], ?_, (hu k us[k] L[k] (List.getElem?_eq_getElem (by omega)) (List.getElem?_eq_getElem hk)).below hb⟩⟩
      rw [Nat.zero_add, ho.cellAt k (by omega), List.getElem?_eq_getElem (by omega)]
theorem AllR.keep {W0 w w' : World} {base : Nat} {v : Value} {L : List (List Nat)} (h : AllR W0 w base v L) (hb : Below w.heap.size w w') : AllR W0 w' base v L := by
  obtain ⟨h1, h2, h3, us, hl, ho, hu⟩ := h
  exact ⟨h1.trans (hb.mono h1.size), h2, Nat.le_trans h3 hb.size, us, hl, owns_keep ho (KeepT.of_below (ts := []) hb) (by simp), hu⟩
/-- One more list behind it. -/
theorem wpList_append_all {W0 w : World} {ops : Array Oper} {rest : List Oper} {o : Oper} {a : Act} {K : Exit → Act → World → Prop} (hgd : o.guard = none) (s x : Operand)
    (ho : o.op = .call { callee := .builtin .append, args := #[s, x], argTypes := #[25, 25] }) (base : Nat) (v : Value) (L Q : List (List Nat)) (hA : AllR W0 w base v L) (hs : a.eval s = v)
    (A : Option Addr) (n c : Nat) (hx : a.eval x = .slice A n c) (hQ : HashesR W0 (.slice A n c) Q) (h1000 : L.length + Q.length ≤ 1000)
    (h : ∀ A' n' c' w', n' = (L ++ Q).length → AllR W0 w' base (.slice A' n' c') (L ++ Q) → Below base w w' → wpList Tryf.prog ops K rest (a.put o.dst (.slice A' n' c')) w') : wpList Tryf.prog ops K (o :: rest) a w := by
  obtain ⟨hb, hb1, hb2, us, hl, hown, hu⟩ := hA
  obtain ⟨i0, hi, hz0, hz1, hz2⟩ := info_parts bytesInfo
  obtain ⟨A', c', e, hc, hy, hat⟩ := hQ
  injection e with e1 e2 e3
  subst e1 e2 e3
  obtain ⟨vs, hvl, hvc, hvb⟩ : ∃ vs : List Value, vs.length = Q.length ∧ (0 < Q.length → ∃ ad, A = some ad ∧ ∀ (j : Nat) (u : Value), vs[j]? = some u → W0.cell? (ad.add j) = some u) ∧ ∀ (k : Nat) (u : Value) (l : List Nat), vs[k]? = some u → Q[k]? = some l → BytesR W0 u l := by
    rcases Nat.eq_zero_or_pos Q.length with h0 | h0
    · exact ⟨[], by simp [h0], fun h => absurd h (by omega), fun k u l hk => by simp at hk⟩
    · obtain ⟨g, o', rfl, hcell⟩ := hat h0
      have hex : ∀ k : Fin Q.length, ∃ u, W0.cell? ⟨g, o' + k.1, none⟩ = some u ∧ BytesR W0 u Q[k.1] := fun k => hcell k.1 k.2
      refine ⟨List.ofFn fun k : Fin Q.length => (hex k).choose, by simp, fun _ => ⟨⟨g, o', none⟩, rfl, fun j u hj => ?_⟩, fun k u l hk hq => ?_⟩
      · have hj2 : j < Q.length := by
          rcases Nat.lt_or_ge j Q.length with h | h
          · exact h
          · rw [List.getElem?_eq_none (by simpa using h)] at hj; cases hj
        rw [List.getElem?_ofFn, dif_pos hj2] at hj
        injection hj with hj
        have := (hex ⟨j, hj2⟩).choose_spec.1
        rw [hj] at this
        show W0.cell? ((⟨g, o', none⟩ : Addr).add j) = some u
        rw [show (⟨g, o', none⟩ : Addr).add j = ⟨g, o' + j, none⟩ by unfold Addr.add; split <;> simp_all]
        exact this
      · have hj2 : k < Q.length := by
          rcases Nat.lt_or_ge k Q.length with h | h
          · exact h
          · rw [List.getElem?_eq_none h] at hq; cases hq
        rw [List.getElem?_ofFn, dif_pos hj2] at hk
        rw [List.getElem?_eq_getElem hj2] at hq
        injection hk with hk
        injection hq with hq
        have := (hex ⟨k, hj2⟩).choose_spec.2
        rw [hk] at this
        rw [← hq]
        exact this
  have hone : ∀ u ∈ vs, u.oneCell' = true := fun u hu => by
    obtain ⟨k, hk, rfl⟩ := List.getElem_of_mem hu
    obtain ⟨A2, n2, c2, e⟩ := (hvb k vs[k] Q[k] (List.getElem?_eq_getElem hk) (List.getElem?_eq_getElem (by omega))).form
    rw [e]; rfl
  refine wpList_append_list hgd s x 25 ho base 28 i0 (.slice none 0 0) 1 24 Tryf.underlying25 hi hz0 hz1 hz2 rfl (by decide) v L.length us hs hown A Q.length c vs hx (by omega)
    (fun h0 => by
      obtain ⟨ad, e, hc⟩ := hvc h0
      exact ⟨ad, e, fun j u hj => (hb.cell (World.block_lt_of_cell? W0 _ (hc j u hj))).trans (hc j u hj)⟩) hone (by unfold maxLen; omega) (by omega) hb2 ?_
  intro v' w' hown' hg _
  have hrow : ∀ k, v.ownBlock = some k → base ≤ k := fun k hk => by
    rcases hown.2 with ⟨rfl, _⟩ | ⟨g, cap, cur, rfl, hbg, _⟩
    · cases hk
    · have hk' : some g = some k := hk
      injection hk' with hk'
      omega
  have hB : Below base w w' := (Below.refl _ _).grown hg hb2 hrow
  have hlen : L.length + Q.length = (L ++ Q).length := by simp
  rw [hlen] at hown'
  obtain ⟨A2, c2, rfl, _⟩ := own_slice hown'
  refine h A2 _ c2 w' rfl ⟨hb.trans (hB.mono hb1), hb1, Nat.le_trans hb2 hB.size, us ++ vs, by simp [hl, hvl], hown', fun k u l hk hq => ?_⟩ hB
  rcases Nat.lt_or_ge k us.length with hk1 | hk1
  · rw [List.getElem?_append_left hk1] at hk
    rw [List.getElem?_append_left (by omega)] at hq
    exact hu k u l hk hq
  · rw [List.getElem?_append_right hk1] at hk
    rw [List.getElem?_append_right (by omega)] at hq
    rw [hl] at hk
    exact hvb _ u l hk hq
end Go.Proofs.YtpdmmmcelkinjaaFmt
