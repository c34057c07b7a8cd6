/- append of a whole list, which may be empty (and then nil), to a row of one's own. -/
import Derived.Test.YtpdmmmcelkinjaaFmtRows
import Derived.Maps.AppendAt
import Derived.WalkKit
import Derived.Test.YtpdmmmcelkinjaaFmtHashes
import Derived.Test.YtpdmmmcelkinjaaFmtPieces
namespace Go.Proofs.YtpdmmmcelkinjaaFmt
open Go.ChangeShapes Go.WideShapes Go.RowKit
section
variable {P : Program} {w : World}
theorem run_append_none (base : Nat) (t ty e : TypeId) (i : TypeInfo) (size : Nat) (ht : P.underlying t = some (.slice e)) (hi : P.info? e = some i)
    (v : Value) (n : Nat) (xs : List Value) (hown : w.ownsRow base e size v n xs) (c : Nat) :
    (Builtin.append_ #[t, t] ty #[v, .slice none 0 c]).run P w = .ok v w := by
  rcases hown.2 with ⟨rfl, rfl⟩ | ⟨g, cap, cur, rfl, hbg, hg, hnc, hcm, hcs, htake⟩
  · simp [Builtin.append_, run_underlying ht, sizeOf, typeInfo, hi, Builtin.lenOf, Builtin.firstCells]
  · simp [Builtin.append_, run_underlying ht, sizeOf, typeInfo, hi, Builtin.lenOf, Builtin.firstCells, hnc, storeCells]
/-- append(v, x...): x a slice in whatever memory, or nil. -/
theorem wpList_append_list {ops : Array Oper} {rest : List Oper} {o : Oper} {a : Act} {Q : Exit → Act → World → Prop} (hgd : o.guard = none) (s x : Operand) (t : TypeId)
    (ho : o.op = .call { callee := .builtin .append, args := #[s, x], argTypes := #[t, t] })
    (base : Nat) (e : TypeId) (i : TypeInfo) (z : Value) (size bytes : Nat) (ht : P.underlying t = some (.slice e)) (hi : P.info? e = some i) (hz : i.zero = some z)
    (hsize : i.size = size) (hby : i.bytes = bytes) (hzs : z.cells.size = size) (hsz : 0 < size)
    (v : Value) (n : Nat) (xs : List Value) (hs : a.eval s = v) (hown : w.ownsRow base e size v n xs)
    (A : Option Addr) (m c : Nat) (news : List Value) (hx : a.eval x = .slice A m c) (hl : news.length = m * size) (hnews : 0 < m → ∃ ad, A = some ad ∧ ∀ j u, news[j]? = some u → w.cell? (ad.add j) = some u) (h1 : ∀ u ∈ news, u.oneCell' = true)
    (h63 : n + m ≤ maxLen) (hbytes : (n + m) * bytes ≤ 140737488355328) (hbase : base ≤ w.heap.size)
    (h : ∀ v' w', w'.ownsRow base e size v' (n + m) (xs ++ news) → w.grownBy w' v.ownBlock → (v'.ownBlock = v.ownBlock ∨ v'.ownBlock = some w.heap.size) → wpList P ops Q rest (a.put o.dst v') w') : wpList P ops Q (o :: rest) a w := by
  rcases Nat.eq_zero_or_pos m with h0 | h0
  · subst h0
    obtain rfl : news = [] := List.eq_nil_of_length_eq_zero (by simpa using hl)
    cases A with
    | none =>
      refine wpList_plain hgd fun _ hK => ?_
      unfold Oper.wp execOp
      simp only [ho, resolve, invoke, builtin, Sem.run_bind, Sem.run_pure, Result.andThen_ok, List.map_toArray, List.map_cons, List.map_nil, hs, hx, run_append_none base t o.type e i size ht hi v n xs hown c]
      exact hK _ _ (h v w (by simpa using hown) (World.grownBy.refl _ _) (.inl rfl))
    | some ad =>
      exact wpList_append_own_at (w := w) hgd s x t ho base e i z size bytes ht hi hz hsize hby hzs hsz v n xs hs hown ad 0 c [] hx (by simp) (by simp) (by simp) h63 hbytes hbase (fun v' w' a1 a2 _ a4 => h v' w' a1 a2 a4)
  · obtain ⟨ad, rfl, hn⟩ := hnews h0
    exact wpList_append_own_at (w := w) hgd s x t ho base e i z size bytes ht hi hz hsize hby hzs hsz v n xs hs hown ad m c news hx hl hn h1 h63 hbytes hbase (fun v' w' a1 a2 _ a4 => h v' w' a1 a2 a4)
end
end Go.Proofs.YtpdmmmcelkinjaaFmt
/- A list of hashes that a call makes, one by one; impl.copied. -/
namespace Go.Proofs.YtpdmmmcelkinjaaFmt
open Go.ChangeShapes Go.WideShapes Go.ChangeAt Go.RowKit
set_option maxRecDepth 20000
theorem bytesInfo : (Tryf.prog.info? 28).map (fun i => (i.zero, i.size, i.bytes)) = some (some (.slice none 0 0), 1, 24) := by kernel_rfl
theorem u8Info : (Tryf.prog.info? 5).map (fun i => (i.zero, i.size, i.bytes)) = some (some (.int .u8 0), 1, 1) := by kernel_rfl
/-- A slice that does not lie in this block. -/
def Off (g : Nat) (v : Value) : Prop := ∀ A n c, v = .slice (some A) n c → A.block ≠ g
theorem BytesR.kept {w w' : World} {v : Value} {l : List Nat} {row : Option Nat} (h : BytesR w v l) (hg : w.grownBy w' row) (hoff : 0 < l.length → ∀ g, row = some g → Off g v) : BytesR w' v l := by
  obtain ⟨A, cap, rfl, hc, hy, hat⟩ := h
  refine ⟨A, cap, rfl, hc, hy, fun hl => ?_⟩
  obtain ⟨g, o, rfl, h'⟩ := hat hl
  refine ⟨g, o, rfl, fun k hk => ?_⟩
  rw [← h' k hk]
  exact World.cell?_of_block (hg.block g (World.block_lt_of_cell? w _ (h' k hk)) (fun e => hoff hl g e.symm _ _ _ rfl rfl))
theorem BytesR.lt {w : World} {A : Addr} {n c : Nat} {l : List Nat} (h : BytesR w (.slice (some A) n c) l) (hl : 0 < l.length) : A.block < w.heap.size := by
  obtain ⟨A', cap, e, hc, hy, hat⟩ := h
  obtain ⟨g, o, rfl, h'⟩ := hat hl
  injection e with e; injection e with e; subst e
  exact World.block_lt_of_cell? w _ (h' 0 hl)
/-- A row of one's own in which these hashes lie. -/
def Built (w : World) (base : Nat) (ov : Value) (L : List (List Nat)) : Prop :=
  ∃ us : List Value, w.ownsRow base 28 1 ov L.length us ∧ us.length = L.length ∧ ∀ (k : Nat) (u : Value) (l : List Nat), us[k]? = some u → L[k]? = some l → BytesR w u l ∧ (0 < l.length → ∀ g, ov.ownBlock = some g → Off g u)
theorem Built.nil {w : World} {base : Nat} {ov : Value} (h : w.ownsRow base 28 1 ov 0 []) : Built w base ov [] := ⟨[], h, rfl, fun k u l hu => by simp at hu⟩
theorem Built.below {w w' : World} {base : Nat} {ov : Value} {L : List (List Nat)} (h : Built w base ov L) (hb : Below w.heap.size w w') : Built w' base ov L := by
  obtain ⟨us, ho, hl, hk⟩ := h
  exact ⟨us, own_below ho hb, hl, fun k u l hu hL => ⟨(hk k u l hu hL).1.below hb, (hk k u l hu hL).2⟩⟩
theorem Built.push {w w' : World} {base : Nat} {ov ov' u : Value} {L : List (List Nat)} {l : List Nat} {us : List Value} (hl : us.length = L.length) (hk : ∀ (k : Nat) (u : Value) (l : List Nat), us[k]? = some u → L[k]? = some l → BytesR w u l ∧ (0 < l.length → ∀ g, ov.ownBlock = some g → Off g u))
    (hu : BytesR w u l) (ho : 0 < l.length → ∀ g, ov.ownBlock = some g → Off g u) (hown : w'.ownsRow base 28 1 ov' (L.length + 1) (us ++ [u])) (hg : w.grownBy w' ov.ownBlock) (hat : ov'.ownBlock = ov.ownBlock ∨ ov'.ownBlock = some w.heap.size) :
    Built w' base ov' (L ++ [l]) := by
  have key : ∀ u l, BytesR w u l → (0 < l.length → ∀ g, ov.ownBlock = some g → Off g u) → BytesR w' u l ∧ (0 < l.length → ∀ g, ov'.ownBlock = some g → Off g u) := fun u l h1 h2 => by
    refine ⟨h1.kept hg h2, fun hl g hgv => ?_⟩
    rcases hat with e | e
    · exact h2 hl g (by rw [← e]; exact hgv)
    · rw [e] at hgv
      injection hgv with hgv
      subst hgv
      intro A n c hc
      subst hc
      have := h1.lt hl
      omega
  refine ⟨us ++ [u], by simpa using hown, by simp [hl], fun k x y hx hy => ?_⟩
  rcases Nat.lt_or_ge k us.length with h | h
  · rw [List.getElem?_append_left h] at hx
    rw [List.getElem?_append_left (by omega)] at hy
    exact key x y (hk k x y hx hy).1 (hk k x y hx hy).2
  · rw [List.getElem?_append_right h] at hx
    rw [List.getElem?_append_right (by omega)] at hy
    have h0 : k - us.length = 0 := by
      rcases Nat.eq_zero_or_pos (k - us.length) with h0 | h0
      · exact h0
      · rw [List.getElem?_eq_none (by simp; omega)] at hx; cases hx
    rw [h0] at hx
    rw [← hl, h0] at hy
    simp at hx hy
    subst hx hy
    exact key u l hu ho
theorem Built.hashes {w : World} {base : Nat} {ov : Value} {L : List (List Nat)} (h : Built w base ov L) : HashesR w ov L := by
  obtain ⟨us, ho, hl, hk⟩ := h
  have hy : ∀ x ∈ L, Pl.Bytes x := fun x hx => by
    obtain ⟨k, hkL, rfl⟩ := List.getElem_of_mem hx
    exact (hk k us[k] L[k] (List.getElem?_eq_getElem (by omega)) (List.getElem?_eq_getElem hkL)).1.bytes
  rcases own_cases ho with ⟨h0, A, c, rfl⟩ | ⟨h0, g, c, rfl, hc⟩
  · obtain ⟨_, _, e, hh⟩ := own_slice ho
    injection e with _ _ e; subst e
    exact ⟨A, c, rfl, hh, hy, fun hl => absurd h0 (by omega)⟩
  · refine ⟨_, c, rfl, hc, hy, fun _ => ⟨g, 0, rfl, fun k hkL => ?_⟩⟩
    refine ⟨us[k]'(by omega), ?_, (hk k _ L[k] (List.getElem?_eq_getElem (by omega)) (List.getElem?_eq_getElem hkL)).1⟩
    rw [Nat.zero_add, ho.cellAt k (by omega)]
    exact List.getElem?_eq_getElem (by omega)
/-- Nothing is longer than the statements let it be. -/
def Fits (L : List (List Nat)) : Prop := L.length ≤ 2147483647 ∧ ∀ x ∈ L, x.length ≤ 2147483647
def u8Cells (l : List Nat) : List Value := l.map fun (n : Nat) => .int .u8 (n : Int)
theorem BytesR.news {w : World} {A : Option Addr} {n c : Nat} {l : List Nat} (h : BytesR w (.slice A n c) l) : n = l.length ∧ (0 < n → ∃ ad, A = some ad ∧ ∀ j u, (u8Cells l)[j]? = some u → w.cell? (ad.add j) = some u) := by
  obtain ⟨A', cap, e, hc, hy, hat⟩ := h
  injection e with e1 e2 e3
  subst e1 e2 e3
  refine ⟨rfl, fun hp => ?_⟩
  obtain ⟨g, o, rfl, h'⟩ := hat hp
  refine ⟨_, rfl, fun j u hu => ?_⟩
  have hj : j < l.length := by
    rcases Nat.lt_or_ge j l.length with h | h
    · exact h
    · rw [List.getElem?_eq_none (by simp [u8Cells]; omega)] at hu; cases hu
  have e : (⟨g, o, none⟩ : Addr).add j = ⟨g, o + j, none⟩ := by unfold Addr.add; split <;> simp_all
  rw [e, h' j hj]
  simp [u8Cells, List.getElem?_eq_getElem hj] at hu
  rw [hu]
theorem BytesR.of_own {w : World} {base : Nat} {v : Value} {l : List Nat} (h : w.ownsRow base 5 1 v l.length (u8Cells l)) (hy : Pl.Bytes l) : BytesR w v l := by
  rcases own_cases h with ⟨h0, A, c, rfl⟩ | ⟨h0, g, c, rfl, hc⟩
  · obtain ⟨_, _, e, hh⟩ := own_slice h
    injection e with _ _ e; subst e
    exact ⟨A, c, rfl, hh, hy, fun hl => absurd h0 (by omega)⟩
  · refine ⟨_, c, rfl, hc, hy, fun _ => ⟨g, 0, rfl, fun k hk => ?_⟩⟩
    rw [Nat.zero_add, h.cellAt k (by omega)]
    simp [u8Cells, hk]
theorem u8_one (l : List Nat) : ∀ u ∈ u8Cells l, u.oneCell' = true := by
  intro u hu
  simp [u8Cells] at hu
  obtain ⟨n, _, rfl⟩ := hu
  rfl
/-- What a call that makes a list of hashes gives. -/
def RetBuilt (w : World) (L : List (List Nat)) (e : Ending) (w' : World) : Prop := ∃ v, e = .returned v ∧ Built w' w.heap.size v L ∧ Below w.heap.size w w'
set_option maxHeartbeats 2000000 in
theorem copied_c (v : Value) (L : List (List Nat)) (w : World) (hv : HashesR w v L) (hf : Fits L) : Calls Tryf.prog 29 #[v] w (RetBuilt w L) := by
  obtain ⟨i0, hi, hz0, hz1, hz2⟩ := info_parts bytesInfo
  obtain ⟨j0, hj, hy0, hy1, hy2⟩ := info_parts u8Info
  obtain ⟨A, cap, rfl, hcap, hy, hat⟩ := hv
  have HY := Lib.hid hy
  have HF := Lib.hid hf
  have hL : L.length ≤ 2147483647 := hf.1
  clear hy hf
  go_enter Tryf.func29, Tryf.ntmps29
  go_wp2_with fail
  go_loopw [3, 9] (fun ov kv wr => ∃ (k : Nat) (Ao : Option Addr) (co : Nat), k ≤ L.length ∧ kv = .int .i64 k ∧ ov = .slice Ao k co ∧ Hid (Built wr w.heap.size (.slice Ao k co) (L.take k)) ∧ Below w.heap.size w wr) (fun _ kv _ => L.length - (intOf kv).toNat)
  case atStart => exact ⟨0, some ⟨w.heap.size, 0, none⟩, 0, Nat.zero_le _, rfl, rfl, Lib.hid (by simpa using Built.nil (World.ownsRow_lit _ _ 0 (Nat.le_refl _) (by unfold maxLen; omega) rfl)), (Below.refl _ _).alloc (Nat.le_refl _) _⟩
  case round =>
    obtain ⟨k, Ao, co, hk, rfl, rfl, HO, hB⟩ := hrel
    by_cases hkl : k < L.length
    · obtain ⟨g, o, rfl, hc⟩ := hat (by omega)
      obtain ⟨u, hu, hbr⟩ := hc k hkl
      have hu' := (hB.cell (World.block_lt_of_cell? w _ hu)).trans hu
      have hbr' := Lib.hid (hbr.below hB)
      have hll := HF.out.2 L[k] (List.getElem_mem hkl)
      have HLy := Lib.hid (HY.out L[k] (List.getElem_mem hkl))
      have HTk := Lib.hid (take_snoc L k hkl)
      generalize L[k] = l at hbr hbr' hll HLy HTk
      obtain ⟨A2, n2, c2, rfl⟩ := hbr.form
      have hk1 : (k : Int) < (L.length : Int) := by omega
      have hk0 : (0 : Int) ≤ (k : Int) := by omega
      obtain ⟨us, hown, hul, hus⟩ := HO.out
      have HUS := Lib.hid hus
      have HBR := BytesR.news hbr'.out
      obtain ⟨hn2, hnews⟩ := HBR
      have Hnews := Lib.hid hnews
      have Hn2 := Lib.hid hn2
      have Hul : Hid (us.length = (L.take k).length) := Lib.hid hul
      have hn2' : n2 ≤ 2147483647 := by omega
      clear hc hat hbr hu hus hul hnews hn2
      go_wp2_with (first
        | (at_builtin; (refine wpList_append_list rfl (.tmp 14) (.tmp 15) 28 rfl wr.heap.size 5 j0 (.int .u8 0) 1 1 Tryf.underlying28 hj hy0 hy1 hy2 rfl (by decide) _ 0 [] rfl (World.ownsRow_lit _ _ 0 (Nat.le_refl _) (by unfold maxLen; omega) rfl) A2 n2 c2 (u8Cells l) rfl (by simp [u8Cells, Hn2.out]) (fun h => by obtain ⟨ad, e, h⟩ := Hnews.out h; exact ⟨ad, e, fun j u hu => by rw [← h j u hu]; exact ((Below.refl wr.heap.size wr).alloc (Nat.le_refl _) _).cell (World.block_lt_of_cell? wr _ (h j u hu))⟩) (u8_one l) (by unfold maxLen; omega) (by omega) (by simp) ?_; intro v1 w1 hown1 hg1 _; obtain ⟨A1, c1, rfl, _⟩ := own_slice hown1; have hB1 : Below wr.heap.size wr w1 := ((Below.refl wr.heap.size wr).alloc (Nat.le_refl _) _).grown hg1 (by simp) (fun j hj => by have hj' : some wr.heap.size = some j := hj; injection hj' with hj'; omega); have hown' := own_below hown hB1))
        | (at_builtin; (refine wpList_append_own_at _ rfl (.tmp 13) (.tmp 17) 25 rfl w.heap.size 28 i0 (.slice none 0 0) 1 24 Tryf.underlying25 hi hz0 hz1 hz2 rfl (by decide) _ _ _ rfl (hown'.alloc _) ⟨w1.heap.size, 0, none⟩ 1 1 [_] rfl rfl (cell_one_new _ _ _) (by simp [Value.oneCell']) (by simp only [List.length_take]; unfold maxLen; omega) (by simp only [List.length_take]; omega) (by have := hB.size; have := hB1.size; simp; omega) ?_; intro v' w2 hown2 hgrow _ hat2)))
      go_roundw
      case rel =>
        have e1 : w1.ownsRow wr.heap.size 5 1 (.slice A1 n2 c1) l.length (u8Cells l) := by
          have := Hn2.out
          subst this
          simpa using hown1
        have hgrow' : (w1.alloc (.cells #[.slice A1 n2 c1] 28)).grownBy w2 (Value.slice Ao k co).ownBlock := hgrow
        have hat' : v'.ownBlock = (Value.slice Ao k co).ownBlock ∨ v'.ownBlock = some (w1.alloc (.cells #[.slice A1 n2 c1] 28)).heap.size := hat2
        have hb1 := (Below.refl w1.heap.size w1).alloc (Nat.le_refl _) (.cells #[.slice A1 n2 c1] 28)
        have hB2 := hB1.alloc hB1.size (.cells #[.slice A1 n2 c1] 28)
        have hb2 := hB.trans (hB2.mono hB.size)
        have hB3 := hb2.grown hgrow' hb2.size (fun k hk => (hown'.lt k hk).1)
        have hfit : (List.take k L).length = k := by simp only [List.length_take]; omega
        have key : Built w2 w.heap.size v' (List.take k L ++ [l]) := Built.push (w := w1.alloc (.cells #[.slice A1 n2 c1] 28)) (ov := .slice Ao k co) (us := us) Hul.out (fun k u l hu hl => ⟨(HUS.out k u l hu hl).1.below hB2, (HUS.out k u l hu hl).2⟩) ((BytesR.of_own e1 HLy.out).below hb1) (fun _ g hg A n c e => by
          have h1 := own_fresh e1 A n c e
          have h2 := (hown.lt g hg).2
          omega) hown2 hgrow' hat'
        obtain ⟨A5, c5, rfl, _⟩ := own_slice hown2
        rw [hfit] at key hown2 ⊢
        exact ⟨k + 1, _, _, by omega, by go_num, rfl, Lib.hid (by rw [HTk.out]; exact key), hB3⟩
      case measure => simp [intOf] <;> omega
    · have hk1 : ¬ (k : Int) < (L.length : Int) := by omega
      obtain rfl : k = L.length := by omega
      rw [List.take_length] at HO
      clear hat
      go_wp2_with fail
      go_ret
      exact ⟨_, rfl, HO.out, hB⟩
end Go.Proofs.YtpdmmmcelkinjaaFmt
/- laws.zzFits1, spec.Leaves, spec.Hashes, laws.sameHashes. -/
namespace Go.Proofs.YtpdmmmcelkinjaaFmt
open Go.ChangeShapes Go.WideShapes Go.ChangeAt Go.RowKit
set_option maxRecDepth 20000
/-- The element at k, as the walk wants it. -/
theorem HashesR.at {w : World} {A : Option Addr} {n cap : Nat} {L : List (List Nat)} (h : HashesR w (.slice A n cap) L) (k : Nat) (hk : k < L.length) :
    ∃ g o A2 c2, A = some ⟨g, o, none⟩ ∧ w.cell? ⟨g, o + k, none⟩ = some (.slice A2 L[k].length c2) ∧ BytesR w (.slice A2 L[k].length c2) L[k] := by
  obtain ⟨A', cap', e, hc, hy, hat⟩ := h
  injection e with e1 e2 e3
  subst e1 e2 e3
  obtain ⟨g, o, rfl, h'⟩ := hat (by omega)
  obtain ⟨u, hu, hb⟩ := h' k hk
  obtain ⟨A2, c2, rfl, _⟩ := id hb
  exact ⟨g, o, A2, c2, rfl, hu, hb⟩
/-- A yes or a no, the memory as it was. -/
def RetIs (w : World) (p : Prop) (e : Ending) (w' : World) : Prop := ((p ∧ e = .returned (.bool true)) ∨ (¬ p ∧ e = .returned (.bool false))) ∧ w = w'
theorem RetIs.yes {w w' : World} {p : Prop} {e : Ending} (h : RetIs w p e w') (hp : p) : e = .returned (.bool true) ∧ w = w' := ⟨h.1.elim (fun h => h.2) (fun h => absurd hp h.1), h.2⟩
theorem RetIs.no {w w' : World} {p : Prop} {e : Ending} (h : RetIs w p e w') (hp : ¬ p) : e = .returned (.bool false) ∧ w = w' := ⟨h.1.elim (fun h => absurd h.1 hp) (fun h => h.2), h.2⟩
set_option maxHeartbeats 1000000 in
theorem fits1_c (v : Value) (L : List (List Nat)) (w : World) (hv : HashesR w v L) : Calls Tryf.prog 14 #[v] w (RetIs w (Fits L)) := by
  obtain ⟨A, cap, rfl, _⟩ := id hv
  have HV := Lib.hid hv
  clear hv
  by_cases hn : L.length ≤ 2147483647
  case neg =>
    have h1 : (2147483647 : Int) < (L.length : Int) := by omega
    have HF := Lib.hid (fun h : Fits L => hn h.1)
    clear hn
    go_enter Tryf.func14, Tryf.ntmps14
    go_wp2_with fail
    go_ret
    exact ⟨.inr ⟨fun h => HF.out h, rfl⟩, rfl⟩
  have h1 : ¬ (2147483647 : Int) < (L.length : Int) := by omega
  go_enter Tryf.func14, Tryf.ntmps14
  go_wp2_with fail
  go_loop [10] (fun kv => ∃ k : Nat, k ≤ L.length ∧ kv = .int .i64 k ∧ Hid (∀ x ∈ L.take k, x.length ≤ 2147483647)) (fun kv => L.length - (intOf kv).toNat)
  case atStart => exact ⟨0, Nat.zero_le _, rfl, Lib.hid (fun x h => by simp at h)⟩
  case round =>
    obtain ⟨k, hk, rfl, HK⟩ := hrel
    by_cases hkl : k < L.length
    · obtain ⟨g, o, A2, c2, rfl, hc, hb⟩ := HV.out.at k hkl
      have HT := Lib.hid (take_snoc L k hkl)
      have HM := Lib.hid (List.getElem_mem hkl)
      clear hb
      generalize L[k] = l at hc HT HM
      have hk1 : (k : Int) < (L.length : Int) := by omega
      have hk0 : (0 : Int) ≤ (k : Int) := by omega
      by_cases hl : l.length ≤ 2147483647
      · have h2 : ¬ (2147483647 : Int) < (l.length : Int) := by omega
        go_wp2_with fail
        go_round
        case rel => exact ⟨k + 1, by omega, by go_num, Lib.hid (by
          rw [HT.out]
          intro x hx
          rcases List.mem_append.1 hx with h | h
          · exact HK.out x h
          · simp at h; subst h; exact hl)⟩
        case measure => simp [intOf] <;> omega
      · have h2 : (2147483647 : Int) < (l.length : Int) := by omega
        have HF := Lib.hid (fun h : Fits L => hl (h.2 l HM.out))
        clear hl
        go_wp2_with fail
        go_ret
        exact ⟨.inr ⟨fun h => HF.out h, rfl⟩, rfl⟩
    · have hk1 : ¬ (k : Int) < (L.length : Int) := by omega
      obtain rfl : k = L.length := by omega
      rw [List.take_length] at HK
      clear hkl
      go_wp2_with fail
      go_ret
      exact ⟨.inl ⟨⟨hn, HK.out⟩, rfl⟩, rfl⟩
/-- What spec.Leaves asks. -/
def IsLeaves (L : List (List Nat)) : Prop := (∀ x ∈ L, x.length = 2) ∧ 0 < L.length ∧ L.length ≤ 200
set_option maxHeartbeats 1000000 in
theorem leaves_c (v : Value) (L : List (List Nat)) (w : World) (hv : HashesR w v L) (hle : L.length ≤ 2147483647) : Calls Tryf.prog 15 #[v] w (RetIs w (IsLeaves L)) := by
  obtain ⟨A, cap, rfl, _⟩ := id hv
  have HV := Lib.hid hv
  clear hv
  go_enter Tryf.func15, Tryf.ntmps15
  go_wp2_with fail
  go_loop [7] (fun kv => ∃ k : Nat, k ≤ L.length ∧ kv = .int .i64 k ∧ Hid (∀ x ∈ L.take k, x.length = 2)) (fun kv => L.length - (intOf kv).toNat)
  case atStart => exact ⟨0, Nat.zero_le _, rfl, Lib.hid (fun x h => by simp at h)⟩
  case round =>
    obtain ⟨k, hk, rfl, HK⟩ := hrel
    by_cases hkl : k < L.length
    · obtain ⟨g, o, A2, c2, rfl, hc, hb⟩ := HV.out.at k hkl
      have HT := Lib.hid (take_snoc L k hkl)
      have HM := Lib.hid (List.getElem_mem hkl)
      clear hb
      generalize L[k] = l at hc HT HM
      have hk1 : (k : Int) < (L.length : Int) := by omega
      have hk0 : (0 : Int) ≤ (k : Int) := by omega
      by_cases hl : l.length = 2
      · rw [hl] at hc
        go_wp2_with fail
        go_round
        case rel => exact ⟨k + 1, by omega, by go_num, Lib.hid (by
          rw [HT.out]
          intro x hx
          rcases List.mem_append.1 hx with h | h
          · exact HK.out x h
          · simp at h; subst h; exact hl)⟩
        case measure => simp [intOf] <;> omega
      · have h2 : ¬ (l.length : Int) = 2 := by omega
        have HF := Lib.hid (fun h : IsLeaves L => hl (h.1 l HM.out))
        clear hl
        go_wp2_with fail
        go_ret
        exact ⟨.inr ⟨fun h => HF.out h, rfl⟩, rfl⟩
    · have hk1 : ¬ (k : Int) < (L.length : Int) := by omega
      obtain rfl : k = L.length := by omega
      rw [List.take_length] at HK
      clear hkl
      by_cases h0 : 0 < L.length
      · have h1 : (0 : Int) < (L.length : Int) := by omega
        by_cases h2 : L.length ≤ 200
        · have h3 : (L.length : Int) ≤ 200 := by omega
          go_wp2_with fail
          go_ret
          exact ⟨.inl ⟨⟨HK.out, h0, h2⟩, rfl⟩, rfl⟩
        · have h3 : ¬ (L.length : Int) ≤ 200 := by omega
          go_wp2_with fail
          go_ret
          exact ⟨.inr ⟨fun h => h2 h.2.2, rfl⟩, rfl⟩
      · have h1 : ¬ (0 : Int) < (L.length : Int) := by omega
        go_wp2_with fail
        go_ret
        exact ⟨.inr ⟨fun h => h0 h.2.1, rfl⟩, rfl⟩
/-- A yes or a no, the elder memory as it was. -/
def RetIsB (w : World) (p : Prop) (e : Ending) (w' : World) : Prop := ((p ∧ e = .returned (.bool true)) ∨ (¬ p ∧ e = .returned (.bool false))) ∧ Below w.heap.size w w'
theorem RetIsB.yes {w w' : World} {p : Prop} {e : Ending} (h : RetIsB w p e w') (hp : p) : e = .returned (.bool true) ∧ Below w.heap.size w w' := ⟨h.1.elim (fun h => h.2) (fun h => absurd hp h.1), h.2⟩
set_option maxHeartbeats 1000000 in
theorem sameHashes_c (v u : Value) (L M : List (List Nat)) (w : World) (hv : HashesR w v L) (hu : HashesR w u M) (hle : L.length ≤ 2147483647) : Calls Tryf.prog 22 #[v, u] w (RetIsB w (L = M)) := by
  obtain ⟨A, cap, rfl, _⟩ := id hv
  obtain ⟨A', cap', rfl, _⟩ := id hu
  have HV := Lib.hid hv
  have HU := Lib.hid hu
  clear hv hu
  by_cases hn : L.length = M.length
  case neg =>
    have h1 : ¬ (L.length : Int) = (M.length : Int) := by omega
    have HF := Lib.hid (fun h : L = M => hn (by rw [h]))
    clear hn
    go_enter Tryf.func22, Tryf.ntmps22
    go_wp2_with fail
    go_ret
    exact ⟨.inr ⟨fun h => HF.out h, rfl⟩, Below.refl _ _⟩
  have HN := Lib.hid hn
  rw [← hn]
  clear hn
  go_enter Tryf.func22, Tryf.ntmps22
  go_wp2_with fail
  go_loopw [5, 13] (fun _ kv wr => Below w.heap.size w wr ∧ ∃ k : Nat, k ≤ L.length ∧ kv = .int .i64 k ∧ Hid (L.take k = M.take k)) (fun _ kv _ => L.length - (intOf kv).toNat)
  case atStart => exact ⟨Below.refl _ _, 0, Nat.zero_le _, rfl, Lib.hid rfl⟩
  case round =>
    obtain ⟨hB, k, hk, rfl, HK⟩ := hrel
    by_cases hkl : k < L.length
    · obtain ⟨g, o, A2, c2, rfl, hc, hb⟩ := HV.out.at k hkl
      obtain ⟨g', o', A2', c2', rfl, hc', hb'⟩ := HU.out.at k (by rw [← HN.out]; exact hkl)
      have HT := Lib.hid (take_snoc L k hkl)
      have HT' := Lib.hid (take_snoc M k (by rw [← HN.out]; exact hkl))
      have HL := Lib.hid (List.getElem?_eq_getElem hkl)
      have HL' := Lib.hid (List.getElem?_eq_getElem (l := M) (i := k) (by rw [← HN.out]; exact hkl))
      have s1 := (hb.below hB.drew).str
      have s2 := (hb'.below hB.drew).str
      have HB := Lib.hid hb.bytes
      have HB' := Lib.hid hb'.bytes
      have hc := (hB.cell (World.block_lt_of_cell? w _ hc)).trans hc
      have hc' := (hB.cell (World.block_lt_of_cell? w _ hc')).trans hc'
      clear hb hb'
      generalize L[k] = l at hc HT HL s1 HB
      generalize M[k]'_ = m at hc' HT' HL' s2 HB'
      have hk1 : (k : Int) < (L.length : Int) := by omega
      have hk0 : (0 : Int) ≤ (k : Int) := by omega
      by_cases hl : l = m
      · subst hl
        go_wp2_with fail
        go_region
        go_wp2_with fail
        go_roundw
        case rel => exact ⟨hB.drew, k + 1, by omega, by go_num, Lib.hid (by rw [HT.out, HT'.out, HK.out])⟩
        case measure => simp [intOf] <;> omega
      · have hn : ¬ (bs l).toList = (bs m).toList := fun h => hl (bs_inj HB.out HB'.out (by
          rw [ByteArray.toList_eq, ByteArray.toList_eq] at h
          cases hl : bs l with | mk a => cases hm : bs m with | mk b => rw [hl, hm] at h; cases a; cases b; simp at h; subst h; rfl))
        have HF := Lib.hid (fun h : L = M => hl (by have a := HL.out; have b := HL'.out; rw [h, b] at a; injection a with a; exact a.symm))
        have hn2 : ((bs l).toList == (bs m).toList) = false := by simpa using hn
        clear hl hn
        go_wp2_with fail
        go_region
        go_wp2_with fail
        go_ret
        exact ⟨.inr ⟨fun h => HF.out h, rfl⟩, hB.drew⟩
    · have hk1 : ¬ (k : Int) < (L.length : Int) := by omega
      obtain rfl : k = L.length := by omega
      rw [List.take_length] at HK
      clear hkl
      go_wp2_with fail
      go_ret
      exact ⟨.inl ⟨by have := HK.out; rw [this, HN.out, List.take_length], rfl⟩, hB⟩
theorem hashes_s (v : Value) (L : List (List Nat)) (w : World) (hv : HashesR w v L) (hle : L.length ≤ 2147483647) : Calls Tryf.prog 19 #[v] w (RetIs w (L.length = 0 ∨ IsLeaves L)) := by
  have HL := Lib.hid (leaves_c v L w hv hle)
  obtain ⟨A, cap, rfl, hc9⟩ := id hv
  clear hv hc9
  by_cases h0 : L.length = 0
  · have e0 : (L.length : Int) = 0 := by omega
    rw [h0] at HL ⊢
    clear e0
    go_enter Tryf.func19, Tryf.ntmps19
    go_wp2_with fail
    go_ret
    exact ⟨.inl ⟨by simp, rfl⟩, rfl⟩
  · have e0 : ¬ (L.length : Int) = 0 := by omega
    by_cases hl : IsLeaves L
    · have HL2 : Hid (Calls Tryf.prog 15 #[.slice A L.length cap] w fun e w' => e = .returned (.bool true) ∧ w = w') := Lib.hid (HL.out.mono fun _ _ r => r.yes hl)
      have hx : Hid (L.length = 0 ∨ IsLeaves L) := .inr hl
      generalize L.length = n at *
      clear HL hl h0
      go_enter Tryf.func19, Tryf.ntmps19
      go_wp2_with fail
      refine HL2.out.mono ?_; rintro e w' ⟨rfl, rfl⟩
      go_wp2_with fail
      go_ret
      exact ⟨.inl ⟨hx.out, rfl⟩, rfl⟩
    · have HL2 : Hid (Calls Tryf.prog 15 #[.slice A L.length cap] w fun e w' => e = .returned (.bool false) ∧ w = w') := Lib.hid (HL.out.mono fun _ _ r => r.no hl)
      have hx : Hid (¬ (L.length = 0 ∨ IsLeaves L)) := fun h => h.elim h0 hl
      generalize L.length = n at *
      clear HL hl h0
      go_enter Tryf.func19, Tryf.ntmps19
      go_wp2_with fail
      refine HL2.out.mono ?_; rintro e w' ⟨rfl, rfl⟩
      go_wp2_with fail
      go_ret
      exact ⟨.inr ⟨hx.out, by simpa using e0⟩, rfl⟩
end Go.Proofs.YtpdmmmcelkinjaaFmt
