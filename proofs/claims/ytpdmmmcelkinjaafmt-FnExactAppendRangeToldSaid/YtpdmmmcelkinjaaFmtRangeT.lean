/- compact.Range in memory: its block, its factory's, and the row of its hashes. -/
import Derived.Test.YtpdmmmcelkinjaaFmtOrd
import Derived.Test.YtpdmmmcelkinjaaFmtGrowP
import Derived.Test.YtpdmmmcelkinjaaFmtRootP
namespace Go.Proofs.YtpdmmmcelkinjaaFmt
open Go.ChangeShapes Go.WideShapes Go.ChangeAt Go.RowKit
set_option maxRecDepth 20000
/-- The method value h.HashChildren. -/
def hashF (h : Pl.HF) : Value := .func (.func 27) #[hashV h] #[]
def RangeB (w : World) (g gf : Nat) (h : Pl.HF) (b e : Nat) (hv : Value) : Prop :=
  Blk w g 82 #[.pointer (some ⟨gf, 0, none⟩), .int .u64 (b : Int), .int .u64 (e : Int), hv] ∧ Blk w gf 58 #[hashF h]
/-- A row of one's own in which hashes of two bytes lie, each in a block of bytes. -/
def BuiltT (w : World) (base : Nat) (v : Value) (H : List (List Nat)) : Prop :=
  ∃ us : List Value, us.length = H.length ∧ w.ownsRow base 28 1 v H.length us ∧ ∀ (k : Nat) (u : Value) (l : List Nat), us[k]? = some u → H[k]? = some l → BytesT w u l ∧ l.length = 2
theorem BuiltT.nil (w : World) (base : Nat) : BuiltT w base (.slice none 0 0) [] := ⟨[], rfl, World.ownsRow_nil _ _ _ _, fun k u l hu => by simp at hu⟩
theorem BuiltT.keep {ts : List TypeId} {w w' : World} {base : Nat} {v : Value} {H : List (List Nat)} (h : BuiltT w base v H) (hk : KeepT ts w w') (h1 : 28 ∉ ts) (h2 : 5 ∉ ts) : BuiltT w' base v H := by
  obtain ⟨us, hl, ho, hb⟩ := h
  exact ⟨us, hl, owns_keep ho hk h1, fun k u l hu hL => ⟨(hb k u l hu hL).1.keep hk h2, (hb k u l hu hL).2⟩⟩
theorem BuiltT.below {w w' : World} {base : Nat} {v : Value} {H : List (List Nat)} (h : BuiltT w base v H) (hb : Below w.heap.size w w') : BuiltT w' base v H := h.keep (KeepT.of_below (ts := []) hb) (by simp) (by simp)
theorem BuiltT.two {w : World} {base : Nat} {v : Value} {H : List (List Nat)} (h : BuiltT w base v H) : ∀ x ∈ H, x.length = 2 := fun x hx => by
  obtain ⟨us, hl, ho, hb⟩ := h
  obtain ⟨k, hk, rfl⟩ := List.getElem_of_mem hx
  exact (hb k us[k] H[k] (List.getElem?_eq_getElem (by omega)) (List.getElem?_eq_getElem hk)).2
theorem BuiltT.form {w : World} {base : Nat} {v : Value} {H : List (List Nat)} (h : BuiltT w base v H) : ∃ A c, v = .slice A H.length c ∧ H.length ≤ c ∧ c ≤ 9223372036854775807 := by
  obtain ⟨us, hl, ho, hb⟩ := h
  rcases ho.2 with ⟨rfl, h0⟩ | ⟨g, cap, cur, rfl, _, _, hc, hm, _⟩
  · exact ⟨none, 0, by rw [h0], by omega, by omega⟩
  · exact ⟨_, cap, rfl, hc, by unfold maxLen at hm; omega⟩
/-- Two bytes as they lie. -/
theorem BytesT.form2 {w : World} {u : Value} {l : List Nat} (h : BytesT w u l) (h2 : l.length = 2) : ∃ g o c, u = .slice (some ⟨g, o, none⟩) 2 c := by
  obtain ⟨⟨A, cap, rfl, hc, hy, hat⟩, _⟩ := h
  obtain ⟨g, o, rfl, _⟩ := hat (by omega)
  exact ⟨g, o, cap, by rw [h2]⟩
theorem BuiltT.at {w : World} {base : Nat} {v : Value} {H : List (List Nat)} (h : BuiltT w base v H) (k : Nat) (hk : k < H.length) :
    ∃ gh ch gu ou cu, v = .slice (some ⟨gh, 0, none⟩) H.length ch ∧ H.length ≤ ch ∧ w.cell? ⟨gh, k, none⟩ = some (.slice (some ⟨gu, ou, none⟩) 2 cu) ∧ BytesT w (.slice (some ⟨gu, ou, none⟩) 2 cu) H[k] := by
  obtain ⟨us, hl, ho, hb⟩ := h
  obtain ⟨hb1, hb2⟩ := hb k us[k] H[k] (List.getElem?_eq_getElem (by omega)) (List.getElem?_eq_getElem hk)
  obtain ⟨gu, ou, cu, hu⟩ := hb1.form2 hb2
  rw [hu] at hb1
  rcases own_cases ho with ⟨h0, _⟩ | ⟨_, g, c, rfl, hc⟩
  · omega
  · refine ⟨g, c, gu, ou, cu, rfl, hc, ?_, hb1⟩
    rw [ho.cellAt k (by omega), List.getElem?_eq_getElem (by omega), hu]
theorem BuiltT.hashes {w : World} {base : Nat} {v : Value} {H : List (List Nat)} (h : BuiltT w base v H) : HashesR w v H := by
  have hy : ∀ x ∈ H, Pl.Bytes x := fun x hx => by
    obtain ⟨us, hl, ho, hb⟩ := h
    obtain ⟨k, hk, rfl⟩ := List.getElem_of_mem hx
    exact (hb k us[k] H[k] (List.getElem?_eq_getElem (by omega)) (List.getElem?_eq_getElem hk)).1.1.bytes
  obtain ⟨A, c, rfl, hc, _⟩ := h.form
  refine ⟨A, c, rfl, hc, hy, fun hl => ?_⟩
  obtain ⟨gh, ch, _, _, _, e, _, _, _⟩ := h.at 0 hl
  injection e with e1 e2 e3
  subst e1 e3
  refine ⟨gh, 0, rfl, fun k hk => ?_⟩
  obtain ⟨gh', ch', gu, ou, cu, e, _, hcell, hb⟩ := h.at k hk
  injection e with e1; injection e1 with e1; injection e1 with e1; subst e1
  exact ⟨_, by rw [Nat.zero_add]; exact hcell, hb.1⟩
/-- Its first hashes. -/
theorem BuiltT.take {w : World} {base : Nat} {A : Option Addr} {n c : Nat} {H : List (List Nat)} (h : BuiltT w base (.slice A n c) H) (i : Nat) (hi : i ≤ H.length) : BuiltT w base (.slice A i c) (H.take i) := by
  obtain ⟨us, hl, ho, hb⟩ := h
  have hil : (H.take i).length = i := by simp; omega
  refine ⟨us.take i, by simp [hl], ?_, fun k u l hu hL => ?_⟩
  · rw [hil]
    obtain ⟨h1, h2⟩ := ho
    refine ⟨by simp; omega, ?_⟩
    rcases h2 with ⟨e, h0⟩ | ⟨g, cap, cur, e, hb, hg, hc, hm, hs, ht⟩
    · injection e with e1 e2 e3
      subst e1 e3
      exact .inl ⟨by rw [show i = 0 by omega], by omega⟩
    · injection e with e1 e2 e3
      subst e1 e3
      refine .inr ⟨g, c, cur, rfl, hb, hg, by omega, hm, hs, ?_⟩
      rw [← ht, List.take_take, Nat.mul_one, Nat.mul_one, Nat.min_eq_left hi]
  · have hk : k < i := by
      rcases Nat.lt_or_ge k i with h | h
      · exact h
      · rw [List.getElem?_eq_none (by simp; omega)] at hL; cases hL
    rw [List.getElem?_take_of_lt hk] at hu hL
    exact hb k u l hu hL
/-- Behind an append of some hashes. -/
theorem BuiltT.grow {w w' : World} {base : Nat} {v v' : Value} {H H2 : List (List Nat)} {us us2 : List Value} (hl : us.length = H.length) (ho : w.ownsRow base 28 1 v H.length us) (hb : ∀ (k : Nat) (u : Value) (l : List Nat), us[k]? = some u → H[k]? = some l → BytesT w u l ∧ l.length = 2)
    (hl2 : us2.length = H2.length) (hb2 : ∀ (k : Nat) (u : Value) (l : List Nat), us2[k]? = some u → H2[k]? = some l → BytesT w u l ∧ l.length = 2) (hown : w'.ownsRow base 28 1 v' (H.length + H2.length) (us ++ us2)) (hg : w.grownBy w' v.ownBlock) : BuiltT w' base v' (H ++ H2) := by
  have hk := keep_grown ho hg
  refine ⟨us ++ us2, by simp [hl, hl2], by rw [List.length_append]; exact hown, fun k u l hu hL => ?_⟩
  have h0 : 5 ∉ [28] := by decide
  rcases Nat.lt_or_ge k us.length with h | h
  · rw [List.getElem?_append_left h] at hu
    rw [List.getElem?_append_left (by omega)] at hL
    exact ⟨(hb k u l hu hL).1.keep hk h0, (hb k u l hu hL).2⟩
  · rw [List.getElem?_append_right h] at hu
    rw [List.getElem?_append_right (by omega), ← hl] at hL
    exact ⟨(hb2 _ u l hu hL).1.keep hk h0, (hb2 _ u l hu hL).2⟩
theorem hash_one (us : List Value) (w : World) (H : List (List Nat)) (hl : us.length = H.length) (hb : ∀ (k : Nat) (u : Value) (l : List Nat), us[k]? = some u → H[k]? = some l → BytesT w u l ∧ l.length = 2) : ∀ u ∈ us, u.oneCell' = true := by
  intro u hu
  obtain ⟨k, hk, rfl⟩ := List.getElem_of_mem hu
  obtain ⟨A, c, e, _⟩ := (hb k us[k] H[k] (List.getElem?_eq_getElem hk) (List.getElem?_eq_getElem (by omega))).1.1
  rw [e]
  simp [Value.oneCell']
/-- A slice of hashes that lies elsewhere: the hashes of another range. -/
def SliceT (w : World) (v : Value) (g o : Nat) (H : List (List Nat)) : Prop :=
  (∃ c, v = .slice (some ⟨g, o, none⟩) H.length c ∧ H.length ≤ c) ∧ (∃ cs fr, w.heap[g]? = some (.cells cs 28 fr)) ∧ ∃ us : List Value, us.length = H.length ∧ (∀ k u, us[k]? = some u → w.cell? ⟨g, o + k, none⟩ = some u) ∧ ∀ (k : Nat) (u : Value) (l : List Nat), us[k]? = some u → H[k]? = some l → BytesT w u l ∧ l.length = 2
theorem SliceT.keep {ts : List TypeId} {w w' : World} {v : Value} {g o : Nat} {H : List (List Nat)} (h : SliceT w v g o H) (hk : KeepT ts w w') (h1 : 28 ∉ ts) (h2 : 5 ∉ ts) : SliceT w' v g o H := by
  obtain ⟨hv, ⟨cs, fr, hb⟩, us, hl, hc, hu⟩ := h
  have hb' := hk.block g cs _ fr hb h1
  exact ⟨hv, ⟨cs, fr, hb'⟩, us, hl, fun k u e => (World.cell?_of_block (a := ⟨g, o + k, none⟩) (hb'.trans hb.symm)).trans (hc k u e), fun k u l e1 e2 => ⟨(hu k u l e1 e2).1.keep hk h2, (hu k u l e1 e2).2⟩⟩
theorem SliceT.at {w : World} {v : Value} {g o : Nat} {H : List (List Nat)} (h : SliceT w v g o H) (k : Nat) (hk : k < H.length) :
    ∃ gu ou cu, w.cell? ⟨g, o + k, none⟩ = some (.slice (some ⟨gu, ou, none⟩) 2 cu) ∧ BytesT w (.slice (some ⟨gu, ou, none⟩) 2 cu) H[k] := by
  obtain ⟨_, _, us, hl, hc, hb⟩ := h
  obtain ⟨hb1, hb2⟩ := hb k us[k] H[k] (List.getElem?_eq_getElem (by omega)) (List.getElem?_eq_getElem hk)
  obtain ⟨gu, ou, cu, hu⟩ := hb1.form2 hb2
  rw [hu] at hb1
  exact ⟨gu, ou, cu, by rw [hc k us[k] (List.getElem?_eq_getElem (by omega)), hu], hb1⟩
/-- append of nothing, as one step of a region. -/
theorem step_append_nil {w : World} {ops : Array Oper} {o : Oper} {a : Act} {K : Act → World → Prop} {Q : Exit → Act → World → Prop} {E : Prop} (hgd : o.guard = none) (d : Nat) (hd : o.dst = some d) (s x : Operand) (t : TypeId)
    (ho : o.op = .call { callee := .builtin .append, args := #[s, x], argTypes := #[t, t] }) (base : Nat) (e : TypeId) (i : TypeInfo) (size : Nat) (ht : Tryf.prog.underlying t = some (.slice e)) (hi : Tryf.prog.info? e = some i)
    (v : Value) (n : Nat) (xs : List Value) (hown : w.ownsRow base e size v n xs) (hs : a.eval s = v) (c : Nat) (hx : a.eval x = .slice none 0 c) (h : K (a.put (some d) v) w) :
    if Region.wanted o (yielded ops a.tmps) = true then Oper.wp Tryf.prog o a w K Q else E := by
  rw [if_pos (show Region.wanted o (yielded ops a.tmps) = true by simp [Region.wanted, hgd])]
  rw [← hd] at h
  unfold Oper.wp execOp
  simp only [ho, resolve, invoke, builtin, Sem.run_bind, Sem.run_pure, Result.andThen_ok, List.map_toArray, List.map_cons, List.map_nil, hs, hx, run_append_none base t o.type e i size ht hi v n xs hown c]
  exact h
theorem SliceT.grown {w w' : World} {v : Value} {g o : Nat} {H : List (List Nat)} {row : Option Nat} (h : SliceT w v g o H) (hg : w.grownBy w' row) (hk : KeepT [28] w w') (hne : some g ≠ row) : SliceT w' v g o H := by
  obtain ⟨hv, ⟨cs, fr, hb⟩, us, hl, hc, hu⟩ := h
  have hlt : g < w.heap.size := (Array.getElem?_eq_some_iff.1 hb).1
  have e := hg.block g hlt hne
  exact ⟨hv, ⟨cs, fr, e.trans hb⟩, us, hl, fun k u e1 => (World.cell?_of_block (a := ⟨g, o + k, none⟩) e).trans (hc k u e1), fun k u l e1 e2 => ⟨(hu k u l e1 e2).1.keep hk (by decide), (hu k u l e1 e2).2⟩⟩
/-- append of one hash of two bytes to a row of hashes, as one step of a region. -/
theorem step_append_bt {w : World} {ops : Array Oper} {o : Oper} {a : Act} {K : Act → World → Prop} {Q : Exit → Act → World → Prop} {E : Prop} (hgd : o.guard = none) (d : Nat) (hd : o.dst = some d) (s x : Operand)
    (ho : o.op = .call { callee := .builtin .append, args := #[s, x], argTypes := #[25, 25] }) (base : Nat) (A : Option Addr) (n c : Nat) (H : List (List Nat)) (hB : BuiltT w base (.slice A n c) H) (hn : H.length = n) (hs : a.eval s = .slice A n c) (gB : Nat) (u : Value) (l : List Nat)
    (hx : a.eval x = .slice (some ⟨gB, 0, none⟩) 1 1) (hcell : w.cell? ⟨gB, 0, none⟩ = some u) (hu : BytesT w u l) (h2 : l.length = 2) (hle : n ≤ 100000) (hbase : base ≤ w.heap.size)
    (h : ∀ A' cap w', BuiltT w' base (.slice A' (n + 1) cap) (H ++ [l]) → KeepT [28] w w' → w.grownBy w' (Value.slice A n c).ownBlock → Below base w w' → K (a.put (some d) (.slice A' (n + 1) cap)) w') :
    if Region.wanted o (yielded ops a.tmps) = true then Oper.wp Tryf.prog o a w K Q else E := by
  obtain ⟨i0, hi, hz0, hz1, hz2⟩ := info_parts bytesInfo
  obtain ⟨us, hl, hown, hb⟩ := hB
  subst hn
  have hb2 : ∀ (k : Nat) (x : Value) (y : List Nat), [u][k]? = some x → [l][k]? = some y → BytesT w x y ∧ y.length = 2 := fun k x y hx hy => by
    match k, hx, hy with
    | 0, hx, hy => simp at hx hy; subst hx hy; exact ⟨hu, h2⟩
  refine step_append_gen hgd d hd s x 25 ho base 28 i0 (.slice none 0 0) 1 24 Tryf.underlying25 hi hz0 hz1 hz2 rfl (by decide) _ _ us hown hs ⟨gB, 0, none⟩ 1 1 [u] hx rfl (fun j c hj => ?_) (hash_one [u] w [l] rfl hb2) (by unfold maxLen; omega) (by omega) hbase (fun A' cap w' h1 h2 => ?_)
  · match j, hj with
    | 0, hj => simp at hj; subst hj; rw [show ((⟨gB, 0, none⟩ : Addr).add 0) = ⟨gB, 0, none⟩ by unfold Addr.add; split <;> simp_all]; exact hcell
  · exact h A' cap w' (BuiltT.grow hl hown hb (us2 := [u]) rfl hb2 h1 h2) (keep_grown hown h2) h2 ((Below.refl _ _).grown h2 hbase (fun k hk => (hown.lt k hk).1))
/-- append of a slice of hashes, as one step of a region. -/
theorem step_append_bts {w : World} {ops : Array Oper} {o : Oper} {a : Act} {K : Act → World → Prop} {Q : Exit → Act → World → Prop} {E : Prop} (hgd : o.guard = none) (d : Nat) (hd : o.dst = some d) (s x : Operand)
    (ho : o.op = .call { callee := .builtin .append, args := #[s, x], argTypes := #[25, 25] }) (base : Nat) (A : Option Addr) (n c : Nat) (H : List (List Nat)) (hB : BuiltT w base (.slice A n c) H) (hn : H.length = n) (hs : a.eval s = .slice A n c) (g2 o2 : Nat) (v2 : Value) (H2 : List (List Nat))
    (hx : a.eval x = v2) (hv2 : SliceT w v2 g2 o2 H2) (hle : n ≤ 100000) (hle2 : H2.length ≤ 100000) (hbase : base ≤ w.heap.size)
    (h : ∀ A' cap w', BuiltT w' base (.slice A' (n + H2.length) cap) (H ++ H2) → KeepT [28] w w' → w.grownBy w' (Value.slice A n c).ownBlock → Below base w w' → K (a.put (some d) (.slice A' (n + H2.length) cap)) w') :
    if Region.wanted o (yielded ops a.tmps) = true then Oper.wp Tryf.prog o a w K Q else E := by
  obtain ⟨i0, hi, hz0, hz1, hz2⟩ := info_parts bytesInfo
  obtain ⟨us, hl, hown, hb⟩ := hB
  subst hn
  obtain ⟨⟨c2, rfl, _⟩, _, us2, hl2, hc2, hb2⟩ := hv2
  refine step_append_gen hgd d hd s x 25 ho base 28 i0 (.slice none 0 0) 1 24 Tryf.underlying25 hi hz0 hz1 hz2 rfl (by decide) _ _ us hown hs ⟨g2, o2, none⟩ H2.length c2 us2 hx (by omega) (fun j u hj => ?_) (hash_one us2 w H2 hl2 hb2) (by unfold maxLen; omega) (by omega) hbase (fun A' cap w' h1 h2 => ?_)
  · rw [show ((⟨g2, o2, none⟩ : Addr).add j) = ⟨g2, o2 + j, none⟩ by unfold Addr.add; split <;> simp_all]
    exact hc2 j u hj
  · exact h A' cap w' (BuiltT.grow hl hown hb hl2 hb2 h1 h2) (keep_grown hown h2) h2 ((Below.refl _ _).grown h2 hbase (fun k hk => (hown.lt k hk).1))
/-- The first hashes, as the program takes them. -/
theorem slice_head {w : World} {base : Nat} {A : Option Addr} {n c : Nat} {H : List (List Nat)} (h : BuiltT w base (.slice A n c) H) (i : Nat) (hi : i ≤ H.length) (W : World) :
    (Instr.slice 25 (.slice A n c) none (some (.int .i64 (i : Int))) none).run Tryf.prog W = .ok (.slice A i c) W := by
  obtain ⟨us, hl, ho, hb⟩ := h
  rcases ho.2 with ⟨e, h0⟩ | ⟨g, cap, cur, e, _, _, hc, _⟩
  · injection e with e1 e2 e3
    subst e1 e2 e3
    obtain rfl : i = 0 := by omega
    have := hashes_head none 0 0 0 (Nat.le_refl _) W
    simpa using this
  · injection e with e1 e2 e3
    subst e1 e2 e3
    have := hashes_head (some ⟨g, 0, none⟩) H.length c i (by omega) W
    rw [this]
    congr 2
    split
    · rfl
    · simp [Addr.add]
/-- The other hashes, as the program takes them. -/
theorem slice_tail {w : World} {v : Value} {g o : Nat} {H : List (List Nat)} (h : SliceT w v g o H) (i : Nat) (hi : i ≤ H.length) : ∃ v' o', (∀ W, (Instr.slice 25 v (some (.int .i64 (i : Int))) none none).run Tryf.prog W = .ok v' W) ∧ SliceT w v' g o' (H.drop i) := by
  obtain ⟨⟨c, rfl, hc⟩, hb, us, hl, hc2, hu⟩ := h
  have r := fun W => hashes_tail (some ⟨g, o, none⟩) H.length c i hi W
  by_cases hci : c = i
  · rw [if_pos hci] at r
    refine ⟨_, o, r, ⟨c - i, by simp, by simp; omega⟩, hb, [], by simp; omega, fun k u e => by simp at e, fun k u l e => by simp at e⟩
  · rw [if_neg hci] at r
    have e : (some (⟨g, o, none⟩ : Addr)).map (·.add (i * 1)) = some ⟨g, o + i, none⟩ := by simp [Addr.add]
    rw [e] at r
    refine ⟨_, o + i, r, ⟨c - i, by simp, by simp; omega⟩, hb, us.drop i, by simp [hl], fun k u e => ?_, fun k u l e1 e2 => ?_⟩
    · rw [List.getElem?_drop] at e
      rw [Nat.add_assoc]
      exact hc2 _ u e
    · rw [List.getElem?_drop] at e1 e2
      exact hu _ u l e1 e2
end Go.Proofs.YtpdmmmcelkinjaaFmt
/- impl.copied, where each hash has two bytes: each copy lies in a block of bytes. -/
namespace Go.Proofs.YtpdmmmcelkinjaaFmt
open Go.ChangeShapes Go.WideShapes Go.ChangeAt Go.RowKit
set_option maxRecDepth 20000
/-- What a call that makes a list of hashes of two bytes gives. -/
def RetBuiltT (w : World) (L : List (List Nat)) (e : Ending) (w' : World) : Prop := ∃ v, e = .returned v ∧ BuiltT w' w.heap.size v L ∧ Below w.heap.size w w'
set_option maxHeartbeats 2000000 in
theorem copied_t (v : Value) (L : List (List Nat)) (w : World) (hv : HashesR w v L) (hf : Fits L) (h2 : ∀ x ∈ L, x.length = 2) : Calls Tryf.prog 29 #[v] w (RetBuiltT w L) := by
  obtain ⟨i0, hi, hz0, hz1, hz2⟩ := info_parts bytesInfo
  obtain ⟨j0, hj, hy0, hy1, hy2⟩ := info_parts u8Info
  obtain ⟨A, cap, rfl, hcap, hy, hat⟩ := hv
  have HY := Lib.hid hy
  have HF := Lib.hid hf
  have H22 := Lib.hid h2
  clear h2
  have hL : L.length ≤ 2147483647 := hf.1
  clear hy hf
  go_enter Tryf.func29, Tryf.ntmps29
  go_wp2_with fail
  go_loopw [3, 9] (fun ov kv wr => ∃ (k : Nat) (Ao : Option Addr) (co : Nat), k ≤ L.length ∧ kv = .int .i64 k ∧ ov = .slice Ao k co ∧ Hid (BuiltT wr w.heap.size (.slice Ao k co) (L.take k)) ∧ Below w.heap.size w wr) (fun _ kv _ => L.length - (intOf kv).toNat)
  case atStart => exact ⟨0, some ⟨w.heap.size, 0, none⟩, 0, Nat.zero_le _, rfl, rfl, Lib.hid ⟨[], by simp, by simpa using World.ownsRow_lit _ _ 0 (Nat.le_refl _) (by unfold maxLen; omega) rfl, fun k u l hu => by simp at hu⟩, (Below.refl _ _).alloc (Nat.le_refl _) _⟩
  case round =>
    obtain ⟨k, Ao, co, hk, rfl, rfl, HO, hB⟩ := hrel
    by_cases hkl : k < L.length
    · obtain ⟨g, o, rfl, hc⟩ := hat (by omega)
      obtain ⟨u, hu, hbr⟩ := hc k hkl
      have hu' := (hB.cell (World.block_lt_of_cell? w _ hu)).trans hu
      have hbr' := Lib.hid (hbr.below hB)
      have hll := HF.out.2 L[k] (List.getElem_mem hkl)
      have hl22 := Lib.hid (H22.out L[k] (List.getElem_mem hkl))
      have HLy := Lib.hid (HY.out L[k] (List.getElem_mem hkl))
      have HTk := Lib.hid (take_snoc L k hkl)
      generalize L[k] = l at hbr hbr' hll HLy HTk hl22
      obtain ⟨A2, n2, c2, rfl⟩ := hbr.form
      have hk1 : (k : Int) < (L.length : Int) := by omega
      have hk0 : (0 : Int) ≤ (k : Int) := by omega
      obtain ⟨us, hul, hown, hus⟩ := HO.out
      have HUS := Lib.hid hus
      have HBR := BytesR.news hbr'.out
      obtain ⟨hn2, hnews⟩ := HBR
      have Hnews := Lib.hid hnews
      have Hn2 := Lib.hid hn2
      have Hul : Hid (us.length = (L.take k).length) := Lib.hid hul
      have hn2' : n2 ≤ 2147483647 := by omega
      clear hc hat hbr hu hus hul hnews hn2
      go_wp2_with (first
        | (at_builtin; (refine wpList_append_list rfl (.tmp 14) (.tmp 15) 28 rfl wr.heap.size 5 j0 (.int .u8 0) 1 1 Tryf.underlying28 hj hy0 hy1 hy2 rfl (by decide) _ 0 [] rfl (World.ownsRow_lit _ _ 0 (Nat.le_refl _) (by unfold maxLen; omega) rfl) A2 n2 c2 (u8Cells l) rfl (by simp [u8Cells, Hn2.out]) (fun h => by obtain ⟨ad, e, h⟩ := Hnews.out h; exact ⟨ad, e, fun j u hu => by rw [← h j u hu]; exact ((Below.refl wr.heap.size wr).alloc (Nat.le_refl _) _).cell (World.block_lt_of_cell? wr _ (h j u hu))⟩) (u8_one l) (by unfold maxLen; omega) (by omega) (by simp) ?_; intro v1 w1 hown1 hg1 _; obtain ⟨A1, c1, rfl, _⟩ := own_slice hown1; have hB1 : Below wr.heap.size wr w1 := ((Below.refl wr.heap.size wr).alloc (Nat.le_refl _) _).grown hg1 (by simp) (fun j hj => by have hj' : some wr.heap.size = some j := hj; injection hj' with hj'; omega); have hown' := own_below hown hB1))
        | (at_builtin; (refine wpList_append_own_at _ rfl (.tmp 13) (.tmp 17) 25 rfl w.heap.size 28 i0 (.slice none 0 0) 1 24 Tryf.underlying25 hi hz0 hz1 hz2 rfl (by decide) _ _ _ rfl (hown'.alloc _) ⟨w1.heap.size, 0, none⟩ 1 1 [_] rfl rfl (cell_one_new _ _ _) (by simp [Value.oneCell']) (by simp only [List.length_take]; unfold maxLen; omega) (by simp only [List.length_take]; omega) (by have := hB.size; have := hB1.size; simp; omega) ?_; intro v' w2 hown2 hgrow _ hat2)))
      go_roundw
      case rel =>
        have e1 : w1.ownsRow wr.heap.size 5 1 (.slice A1 n2 c1) l.length (u8Cells l) := by
          have := Hn2.out
          subst this
          simpa using hown1
        have hgrow' : (w1.alloc (.cells #[.slice A1 n2 c1] 28)).grownBy w2 (Value.slice Ao k co).ownBlock := hgrow
        have hb1 := (Below.refl w1.heap.size w1).alloc (Nat.le_refl _) (.cells #[.slice A1 n2 c1] 28)
        have hB2 := hB1.alloc hB1.size (.cells #[.slice A1 n2 c1] 28)
        have hb2 := hB.trans (hB2.mono hB.size)
        have hB3 := hb2.grown hgrow' hb2.size (fun k hk => (hown'.lt k hk).1)
        have hfit : (List.take k L).length = k := by simp only [List.length_take]; omega
        have hkt : KeepT [] wr w1 := KeepT.of_below hB1
        have key : BuiltT w2 w.heap.size v' (List.take k L ++ [l]) := BuiltT.grow (w := w1.alloc (.cells #[.slice A1 n2 c1] 28)) (H := List.take k L) (H2 := [l]) (us := us) (us2 := [.slice A1 n2 c1]) Hul.out (hown'.alloc _) (fun k u l hu hl => ⟨((HUS.out k u l hu hl).1.keep hkt (by simp)).below hb1, (HUS.out k u l hu hl).2⟩) rfl (fun k x y hx hy => by
          match k, hx, hy with
          | 0, hx, hy => simp at hx hy; subst hx hy; exact ⟨(BytesT.of_own e1 HLy.out).below hb1, hl22.out⟩) (by simpa using hown2) hgrow'
        obtain ⟨A5, c5, rfl, _⟩ := own_slice hown2
        rw [hfit] at key hown2 ⊢
        exact ⟨k + 1, _, _, by omega, by go_num, rfl, Lib.hid (by rw [HTk.out]; exact key), hB3⟩
      case measure => simp [intOf] <;> omega
    · have hk1 : ¬ (k : Int) < (L.length : Int) := by omega
      obtain rfl : k = L.length := by omega
      rw [List.take_length] at HO
      clear hat
      go_wp2_with fail
      go_ret
      exact ⟨_, rfl, HO.out, hB⟩
end Go.Proofs.YtpdmmmcelkinjaaFmt
