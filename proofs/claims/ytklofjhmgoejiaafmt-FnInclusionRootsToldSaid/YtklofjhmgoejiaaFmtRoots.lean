/- append of a list of hashes that came in to an empty list of one's own, as one step of a region. -/
import Derived.Test.YtklofjhmgoejiaaFmtMthW
namespace Go.Proofs.YtklofjhmgoejiaaFmt
open Go.ChangeShapes Go.WideShapes Go.ChangeAt Go.RowKit
set_option maxRecDepth 20000
theorem step_append_hashes {w w0 : World} {ops : Array Oper} {o : Oper} {a : Act} {K : Act → World → Prop} {Q : Exit → Act → World → Prop} {E : Prop} (hgd : o.guard = none) (d : Nat) (hd : o.dst = some d) (s x : Operand)
    (ho : o.op = .call { callee := .builtin .append, args := #[s, x], argTypes := #[27, 27] }) (base : Nat) (v : Value) (hp : Built w base v []) (hs : a.eval s = v) (g o' m c : Nat) (H : List (List Nat))
    (hx : a.eval x = .slice (some ⟨g, o', none⟩) m c) (hH : HashesR w0 (.slice (some ⟨g, o', none⟩) m c) H) (hb0 : Below w0.heap.size w0 w) (hw0 : w0.heap.size ≤ base) (hle : H.length ≤ 2147483647) (hbase : base ≤ w.heap.size)
    (h : ∀ A cap w', Built w' base (.slice A m cap) H → Below base w w' → (∀ b k, b < w.heap.size → v.ownBlock ≠ some b → w'.cell? ⟨b, k, none⟩ = w.cell? ⟨b, k, none⟩) → K (a.put (some d) (.slice A m cap)) w') :
    if Region.wanted o (yielded ops a.tmps) = true then Oper.wp Tryf.prog o a w K Q else E := by
  obtain ⟨i0, hi, hz0, hz1, hz2⟩ := info_parts bytesInfo
  obtain ⟨us0, hown, hul, _⟩ := hp
  obtain rfl : us0 = [] := List.eq_nil_of_length_eq_zero hul
  obtain ⟨A', cap', e, hc, hy, hat⟩ := hH
  injection e with e1 e2 e3
  subst e1 e2 e3
  rw [← hd] at h
  have hcell : ∀ k (hk : k < H.length), ∃ u, w0.cell? ⟨g, o' + k, none⟩ = some u ∧ BytesR w0 u H[k] := fun k hk => by
    obtain ⟨g2, o2, e, h2⟩ := hat (by omega)
    injection e with e
    injection e with e1 e2 _
    subst e1 e2
    exact h2 k hk
  obtain ⟨us, hus⟩ : ∃ us : List Value, us = (List.range H.length).map fun k => (w0.cell? ⟨g, o' + k, none⟩).getD .nilIface := ⟨_, rfl⟩
  have hlen : us.length = H.length := by rw [hus]; simp
  have hk1 : ∀ (k : Nat) (u : Value), us[k]? = some u → ∃ hk : k < H.length, w0.cell? ⟨g, o' + k, none⟩ = some u ∧ BytesR w0 u H[k] := fun k u hu => by
    have hk : k < H.length := by
      rcases Nat.lt_or_ge k H.length with h | h
      · exact h
      · rw [List.getElem?_eq_none (by omega)] at hu; cases hu
    obtain ⟨u', hu', hb'⟩ := hcell k hk
    rw [hus] at hu
    simp [hk, hu'] at hu
    subst hu
    exact ⟨hk, hu', hb'⟩
  have hone : ∀ u ∈ us, u.oneCell' = true := fun u hu => by
    obtain ⟨k, hk, rfl⟩ := List.mem_iff_getElem.1 hu
    obtain ⟨_, _, hb⟩ := hk1 k us[k] (List.getElem?_eq_getElem hk)
    obtain ⟨A, n, c, e⟩ := hb.form
    rw [e]
    simp [Value.oneCell']
  have hw : Region.wanted o (yielded ops a.tmps) = true := by simp [Region.wanted, hgd]
  rw [if_pos hw]
  obtain ⟨v', w', hr, h2, h3, _, h5⟩ := run_append_own_at (P := Tryf.prog) (w := w) base 27 o.type 26 i0 (.slice none 0 0) 1 24 Tryf.underlying27 hi hz0 hz1 hz2 rfl (by decide) v 0 [] hown ⟨g, o', none⟩ H.length c us (by rw [hlen]; omega)
    (fun j u hu => by
      obtain ⟨hk, hc, _⟩ := hk1 j u hu
      rw [add_plain3]
      exact (hb0.cell (World.block_lt_of_cell? w0 _ hc)).trans hc) hone (by unfold maxLen; omega) (by omega) hbase
  rw [Nat.zero_add, List.nil_append] at h2
  obtain ⟨A2, c2, rfl, _⟩ := own_slice h2
  have hbel : Below base w w' := (Below.refl _ _).grown h3 hbase (fun k hk => (hown.lt k hk).1)
  unfold Oper.wp execOp
  simp only [ho, resolve, invoke, builtin, Sem.run_bind, Sem.run_pure, Result.andThen_ok, List.map_toArray, List.map_cons, List.map_nil, hs, hx, hr]
  refine h A2 c2 w' ⟨us, h2, hlen, fun k u l hu hl => ?_⟩ hbel (fun b k hb hne => World.cell?_of_block (h3.block b hb (fun e => hne e.symm)))
  obtain ⟨hk, hc, hb⟩ := hk1 k u hu
  rw [List.getElem?_eq_getElem hk] at hl
  injection hl with hl
  subst hl
  refine ⟨hb.below (hb0.trans (hbel.mono hw0)), fun hl g1 hg1 => fun A n c e => ?_⟩
  subst e
  have hlt := hb.lt hl
  have hge := (h2.lt g1 hg1).1
  omega
theorem lit_nil {w : World} {base g : Nat} (hg : g = w.heap.size) (hb : base ≤ g) : Built (w.alloc (.cells #[] 26)).drew base (.slice (some ⟨g, 0, none⟩) 0 0) [] := by
  subst hg
  exact Built.below (Built.nil (World.ownsRow_lit w #[] 0 hb (by unfold maxLen; omega) rfl)) (Below.refl _ _).drew
theorem lit_nil2 {w : World} {base g : Nat} {o : Obj} (hg : g = w.heap.size) (hb : base ≤ g) : Built ((w.alloc (.cells #[] 26)).alloc o).drew base (.slice (some ⟨g, 0, none⟩) 0 0) [] := by
  subst hg
  exact Built.below (Built.nil (World.ownsRow_lit w #[] 0 hb (by unfold maxLen; omega) rfl)) (((Below.refl _ _).alloc (Nat.le_refl _) _).drew)
end Go.Proofs.YtklofjhmgoejiaaFmt
