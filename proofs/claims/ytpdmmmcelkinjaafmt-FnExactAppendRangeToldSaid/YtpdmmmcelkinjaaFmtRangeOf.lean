/- impl.rangeOf. -/
import Derived.Test.YtpdmmmcelkinjaaFmtAppB
import Derived.Test.YtpdmmmcelkinjaaFmtRangeT
import Derived.Test.YtpdmmmcelkinjaaFmtErr
import Derived.Laws.EntriesVeiled
import Derived.OwnWalk
namespace Go.Proofs.YtpdmmmcelkinjaaFmt
open Go.ChangeShapes Go.WideShapes Go.ChangeAt Go.RowKit
set_option maxRecDepth 20000
theorem begin_c (g gf : Nat) (h : Pl.HF) (b e : Nat) (hv : Value) (w : World) (hR : RangeB w g gf h b e hv) : Calls Tryf.prog 43 #[.pointer (some ⟨g, 0, none⟩)] w fun r w' => r = .returned (.int .u64 (b : Int)) ∧ w = w' := by
  have c1 : w.cell? ⟨g, 1, none⟩ = some (.int .u64 (b : Int)) := hR.1.cell 1
  clear hR
  go_enter Tryf.func43, Tryf.ntmps43
  go_wp2
  go_ret
  exact ⟨rfl, rfl⟩
theorem end_c (g gf : Nat) (h : Pl.HF) (b e : Nat) (hv : Value) (w : World) (hR : RangeB w g gf h b e hv) : Calls Tryf.prog 44 #[.pointer (some ⟨g, 0, none⟩)] w fun r w' => r = .returned (.int .u64 (e : Int)) ∧ w = w' := by
  have c1 : w.cell? ⟨g, 2, none⟩ = some (.int .u64 (e : Int)) := hR.1.cell 2
  clear hR
  go_enter Tryf.func44, Tryf.ntmps44
  go_wp2
  go_ret
  exact ⟨rfl, rfl⟩
theorem hashes_c (g gf : Nat) (h : Pl.HF) (b e : Nat) (hv : Value) (w : World) (hR : RangeB w g gf h b e hv) : Calls Tryf.prog 45 #[.pointer (some ⟨g, 0, none⟩)] w fun r w' => r = .returned hv ∧ w = w' := by
  have c1 : w.cell? ⟨g, 3, none⟩ = some hv := hR.1.cell 3
  clear hR
  go_enter Tryf.func45, Tryf.ntmps45
  go_wp2
  go_ret
  exact ⟨rfl, rfl⟩
theorem BuiltT.fits {w : World} {base : Nat} {v : Value} {H : List (List Nat)} (h : BuiltT w base v H) (hn : H.length ≤ 1000) : Fits H := ⟨by omega, fun x hx => by have := h.two x hx; omega⟩
theorem SeenB.below {w w' : World} {base : Nat} {v : Value} {S : List SeenN} (h : SeenB w base v S) (hb : Below w.heap.size w w') : SeenB w' base v S := h.keep (KeepT.of_below (ts := []) hb) (by simp) (by simp)
/-- append of some bytes, which may be none, to a row of one's own, as one step of a region. -/
theorem step_append_bytes {w : World} {ops : Array Oper} {o : Oper} {a : Act} {K : Act → World → Prop} {Q : Exit → Act → World → Prop} {E : Prop} (hgd : o.guard = none) (d : Nat) (hd : o.dst = some d) (s x : Operand)
    (ho : o.op = .call { callee := .builtin .append, args := #[s, x], argTypes := #[28, 28] }) (base : Nat) (v : Value) (hown : w.ownsRow base 5 1 v 0 []) (hs : a.eval s = v) (u : Value) (l : List Nat) (hx : a.eval x = u) (hu : BytesT w u l) (hle : l.length ≤ 100000) (hbase : base ≤ w.heap.size)
    (h : ∀ v' w', BytesT w' v' l → (∃ A c, v' = .slice A l.length c) → Below base w w' → K (a.put (some d) v') w') :
    if Region.wanted o (yielded ops a.tmps) = true then Oper.wp Tryf.prog o a w K Q else E := by
  obtain ⟨j0, hj, hy0, hy1, hy2⟩ := info_parts u8Info
  have hy := hu.1.bytes
  obtain ⟨A, n, c, rfl⟩ := hu.1.form
  obtain ⟨hn, hnews⟩ := BytesR.news hu.1
  subst hn
  have fin : ∀ v' w', w'.ownsRow base 5 1 v' l.length (u8Cells l) → w.grownBy w' v.ownBlock → K (a.put (some d) v') w' := fun v' w' h1 h2 => by
    obtain ⟨A', c', e, _⟩ := own_slice h1
    exact h v' w' (BytesT.of_own h1 hy) ⟨A', c', e⟩ ((Below.refl _ _).grown h2 hbase (fun k hk => (hown.lt k hk).1))
  cases A with
  | none =>
    have h0 : l.length = 0 := by
      rcases Nat.eq_zero_or_pos l.length with h0 | h0
      · exact h0
      · obtain ⟨ad, e, _⟩ := hnews h0; cases e
    have hl0 : l = [] := List.eq_nil_of_length_eq_zero h0
    refine step_append_nil hgd d hd s x 28 ho base 5 j0 1 Tryf.underlying28 hj v 0 [] hown hs c (by rw [hx, h0]) ?_
    refine fin v w (by rw [hl0]; exact hown) (World.grownBy.refl _ _)
  | some ad =>
    refine step_append_gen hgd d hd s x 28 ho base 5 j0 (.int .u8 0) 1 1 Tryf.underlying28 hj hy0 hy1 hy2 rfl (by decide) v 0 [] hown hs ad l.length c (u8Cells l) hx (by simp [u8Cells]) (fun j u hu => ?_) (u8_one l) (by unfold maxLen; omega) (by omega) hbase (fun A' cap w' h1 h2 => ?_)
    · have hp : 0 < l.length := by
        rcases Nat.eq_zero_or_pos l.length with h0 | h0
        · rw [List.eq_nil_of_length_eq_zero h0] at hu; simp [u8Cells] at hu
        · exact h0
      obtain ⟨ad', e, h'⟩ := hnews hp
      injection e with e; subst e
      exact h' j u hu
    · simp only [Nat.zero_add, List.nil_append] at h1 ⊢
      exact fin _ w' h1 h2
theorem pfold_len (h : Pl.HF) : ∀ (H : List (List Nat)), (∀ x ∈ H, x.length = 2) → (Pl.pfold h H).length ≤ 2
  | [], _ => Nat.zero_le _
  | [x], h2 => by rw [Pl.pfold, h2 x (by simp)]; exact Nat.le_refl _
  | x :: y :: r, _ => by rw [Pl.pfold]; exact Nat.le_refl _
theorem edges_none (h : Pl.HF) (P : List (Nat × Nat)) (H : List (List Nat)) (h0 : P.length = 0) : Pl.edges h P H 0 = [] := by unfold Pl.edges; rw [h0]; rfl
theorem root_c (h : Pl.HF) (ok : h.ok) (g gf base1 base e gv : Nat) (hv av y0 y1 y2 y3 y4 y5 : Value) (H1 : List (List Nat)) (w : World) (he : e < 9223372036854775808) (hT : Tab w) (htb : 0 < base) (hR : RangeB w g gf h 0 e hv) (hB : BuiltT w base1 hv H1) (hn : H1.length = (Pl.pieces 0 e).length) (hbg : base ≤ w.heap.size) (hgv : Blk w gv 31 #[y0, y1, y2, y3, y4, y5, av]) (hS : SeenB w base av []) (hbgv : base ≤ gv) :
    Calls Tryf.prog 46 #[.pointer (some ⟨g, 0, none⟩), .func (.func 47) #[] #[.pointer (some ⟨gv, 0, none⟩)]] w (RetRoot h H1 e base gv y0 y1 y2 y3 y4 y5 w) := by
  rcases Nat.eq_zero_or_pos H1.length with h0 | h0
  · obtain rfl := List.eq_nil_of_length_eq_zero h0
    exact root_none h g gf base1 base e gv hv av y0 y1 y2 y3 y4 y5 w hR hB (by rw [← hn]; rfl) hgv hS
  · exact root_some h ok g gf base1 base e gv hv av y0 y1 y2 y3 y4 y5 H1 w he hT htb hR hB hn h0 hbg hgv hS hbgv
theorem Blk.seven {w : World} {g : Nat} {t : TypeId} {a b c d e f k : Value} (h : Blk w g t #[a, b, c, d, e, f, k]) : w.cell? ⟨g, 0, none⟩ = some a ∧ w.cell? ⟨g, 1, none⟩ = some b ∧ w.cell? ⟨g, 2, none⟩ = some c ∧ w.cell? ⟨g, 3, none⟩ = some d ∧ w.cell? ⟨g, 4, none⟩ = some e ∧ w.cell? ⟨g, 5, none⟩ = some f ∧ w.cell? ⟨g, 6, none⟩ = some k ∧
    w.frozen? ⟨g, 0, none⟩ = false ∧ w.frozen? ⟨g, 1, none⟩ = false ∧ w.frozen? ⟨g, 2, none⟩ = false ∧ w.frozen? ⟨g, 3, none⟩ = false ∧ w.frozen? ⟨g, 4, none⟩ = false ∧ w.frozen? ⟨g, 5, none⟩ = false ∧ w.frozen? ⟨g, 6, none⟩ = false :=
  ⟨h.cell 0, h.cell 1, h.cell 2, h.cell 3, h.cell 4, h.cell 5, h.cell 6, h.frozen 0, h.frozen 1, h.frozen 2, h.frozen 3, h.frozen 4, h.frozen 5, h.frozen 6⟩
theorem set7 {w : World} {g : Nat} {t : TypeId} {a0 a1 a2 a3 a4 a5 a6 : Value} (h : Blk w g t #[a0, a1, a2, a3, a4, a5, a6]) (v0 v1 v2 v3 v4 v5 v6 : Value) :
    Blk (((((((w.setCell ⟨g, 0, none⟩ v0).setCell ⟨g, 1, none⟩ v1).setCell ⟨g, 2, none⟩ v2).setCell ⟨g, 3, none⟩ v3).setCell ⟨g, 4, none⟩ v4).setCell ⟨g, 5, none⟩ v5).setCell ⟨g, 6, none⟩ v6) g t #[v0, v1, v2, v3, v4, v5, v6] ∧ KeepT [t] w (((((((w.setCell ⟨g, 0, none⟩ v0).setCell ⟨g, 1, none⟩ v1).setCell ⟨g, 2, none⟩ v2).setCell ⟨g, 3, none⟩ v3).setCell ⟨g, 4, none⟩ v4).setCell ⟨g, 5, none⟩ v5).setCell ⟨g, 6, none⟩ v6) ∧ Below g w (((((((w.setCell ⟨g, 0, none⟩ v0).setCell ⟨g, 1, none⟩ v1).setCell ⟨g, 2, none⟩ v2).setCell ⟨g, 3, none⟩ v3).setCell ⟨g, 4, none⟩ v4).setCell ⟨g, 5, none⟩ v5).setCell ⟨g, 6, none⟩ v6) := by
  have h0 : Blk (w.setCell ⟨g, 0, none⟩ v0) g t #[v0, a1, a2, a3, a4, a5, a6] := h.set_ 0 v0
  have h1 : Blk ((w.setCell ⟨g, 0, none⟩ v0).setCell ⟨g, 1, none⟩ v1) g t #[v0, v1, a2, a3, a4, a5, a6] := h0.set_ 1 v1
  have h2 : Blk (((w.setCell ⟨g, 0, none⟩ v0).setCell ⟨g, 1, none⟩ v1).setCell ⟨g, 2, none⟩ v2) g t #[v0, v1, v2, a3, a4, a5, a6] := h1.set_ 2 v2
  have h3 : Blk ((((w.setCell ⟨g, 0, none⟩ v0).setCell ⟨g, 1, none⟩ v1).setCell ⟨g, 2, none⟩ v2).setCell ⟨g, 3, none⟩ v3) g t #[v0, v1, v2, v3, a4, a5, a6] := h2.set_ 3 v3
  have h4 : Blk (((((w.setCell ⟨g, 0, none⟩ v0).setCell ⟨g, 1, none⟩ v1).setCell ⟨g, 2, none⟩ v2).setCell ⟨g, 3, none⟩ v3).setCell ⟨g, 4, none⟩ v4) g t #[v0, v1, v2, v3, v4, a5, a6] := h3.set_ 4 v4
  have h5 : Blk ((((((w.setCell ⟨g, 0, none⟩ v0).setCell ⟨g, 1, none⟩ v1).setCell ⟨g, 2, none⟩ v2).setCell ⟨g, 3, none⟩ v3).setCell ⟨g, 4, none⟩ v4).setCell ⟨g, 5, none⟩ v5) g t #[v0, v1, v2, v3, v4, v5, a6] := h4.set_ 5 v5
  have h6 : Blk (((((((w.setCell ⟨g, 0, none⟩ v0).setCell ⟨g, 1, none⟩ v1).setCell ⟨g, 2, none⟩ v2).setCell ⟨g, 3, none⟩ v3).setCell ⟨g, 4, none⟩ v4).setCell ⟨g, 5, none⟩ v5).setCell ⟨g, 6, none⟩ v6) g t #[v0, v1, v2, v3, v4, v5, v6] := h5.set_ 6 v6
  refine ⟨h6, ((((((keep_set (i := 0) h v0).trans (keep_set (i := 1) h0 v1)).trans (keep_set (i := 2) h1 v2)).trans (keep_set (i := 3) h2 v3)).trans (keep_set (i := 4) h3 v4)).trans (keep_set (i := 5) h4 v5)).trans (keep_set (i := 6) h5 v6), ?_⟩
  exact (((((((Below.refl g w).setCell (p := ⟨g, 0, none⟩) (Nat.le_refl _) v0).setCell (p := ⟨g, 1, none⟩) (Nat.le_refl _) v1).setCell (p := ⟨g, 2, none⟩) (Nat.le_refl _) v2).setCell (p := ⟨g, 3, none⟩) (Nat.le_refl _) v3).setCell (p := ⟨g, 4, none⟩) (Nat.le_refl _) v4).setCell (p := ⟨g, 5, none⟩) (Nat.le_refl _) v5).setCell (p := ⟨g, 6, none⟩) (Nat.le_refl _) v6
/-- What impl.rangeOf gives. -/
def RetRange (b e : Nat) (H : List (List Nat)) (ok : Bool) (root : List Nat) (E : List SeenN) (av : Value) (w : World) (r : Ending) (w' : World) : Prop :=
  ∃ v2 rv ev, r = .returned (.agg #[.int .u64 (b : Int), .int .u64 (e : Int), v2, rv, .bool ok, av, ev]) ∧ BuiltT w' w.heap.size v2 H ∧ BytesT w' rv root ∧ SeenB w' w.heap.size ev E ∧ Below w.heap.size w w'
set_option maxHeartbeats 4000000 in
theorem rangeOf_0 (h : Pl.HF) (ok : h.ok) (g gf base e : Nat) (hv : Value) (H : List (List Nat)) (A : Option Addr) (n c : Nat) (w : World) (he : e < 9223372036854775808) (hT : Tab w) (hR : RangeB w g gf h 0 e hv) (hB : BuiltT w base hv H) (hn : H.length = (Pl.pieces 0 e).length) :
    Calls Tryf.prog 30 #[.pointer (some ⟨g, 0, none⟩), .slice A n c] w (RetRange 0 e H true (Pl.pfold h H) (Pl.edges h (Pl.pieces 0 e) H 0) (.slice A n c) w) := by
  have hn2 : H.length ≤ 1000 := by have := Pl.pieces_len 0 e (by omega); omega
  have HR := Lib.hid hR
  have HB := Lib.hid hB
  have HT := Lib.hid hT
  have HN := Lib.hid hn
  have HBG := Lib.hid (fun W (hW : Below w.heap.size w W) => begin_c g gf h 0 e hv W (hR.keep (KeepT.of_below (ts := []) hW) (by simp) (by simp)))
  have HEN := Lib.hid (fun W (hW : Below w.heap.size w W) => end_c g gf h 0 e hv W (hR.keep (KeepT.of_below (ts := []) hW) (by simp) (by simp)))
  have HHA := Lib.hid (fun W (hW : Below w.heap.size w W) => hashes_c g gf h 0 e hv W (hR.keep (KeepT.of_below (ts := []) hW) (by simp) (by simp)))
  have HCO := Lib.hid (fun W (hW : Below w.heap.size w W) => copied_t hv H W (hB.below hW).hashes (hB.fits hn2) hB.two)
  have hB0 : ∀ o, Below w.heap.size w (w.alloc o) := fun o => (Below.refl _ _).alloc (Nat.le_refl _) o
  have HB0 := Lib.hid hB0
  clear hR hB hT hn hB0
  go_enter Tryf.func30, Tryf.ntmps30
  go_wp2_with fail
  refine (HBG.out _ (HB0.out _)).mono ?_; rintro r w1 ⟨rfl, rfl⟩
  go_wp2_with fail
  refine (HEN.out _ (HB0.out _)).mono ?_; rintro r w1 ⟨rfl, rfl⟩
  go_wp2_with fail
  refine (HHA.out _ (HB0.out _)).mono ?_; rintro r w1 ⟨rfl, rfl⟩
  go_wp2_with fail
  refine (HCO.out _ (HB0.out _)).mono ?_; rintro r w1 ⟨v2, rfl, hb2, hb1⟩
  obtain ⟨A2, c2, rfl, _⟩ := hb2.form
  go_wp2_with fail
  have hsz0 : (w.alloc (.cells #[.int .u64 0, .int .u64 0, .slice none 0 0, .slice none 0 0, .bool false, .slice none 0 0, .slice none 0 0] 31)).heap.size = w.heap.size + 1 := by simp
  have G4 := Blk.new w 31 #[.int .u64 0, .int .u64 0, .slice none 0 0, .slice none 0 0, .bool false, .slice none 0 0, .slice none 0 0]
  have B01 := HB0.out (.cells #[.int .u64 0, .int .u64 0, .slice none 0 0, .slice none 0 0, .bool false, .slice none 0 0, .slice none 0 0] 31)
  have B1 := B01.trans (hb1.mono B01.size)
  have G41 := G4.below' hb1
  have hlt4 : w.heap.size < w1.heap.size := by have := hb1.size; omega
  have GV := Blk.new w1 31 #[.int .u64 0, .int .u64 (e : Int), .slice A2 H.length c2, .slice none 0 0, .bool false, .slice A n c, .slice none 0 0]
  have B2 : Below w1.heap.size w1 (w1.alloc (.cells #[.int .u64 0, .int .u64 (e : Int), .slice A2 H.length c2, .slice none 0 0, .bool false, .slice A n c, .slice none 0 0] 31)) := (Below.refl _ _).alloc (Nat.le_refl _) _
  have B12 := B1.trans (B2.mono B1.size)
  have HROOT := Lib.hid (root_c h ok g gf base w1.heap.size e w1.heap.size hv (.slice none 0 0) (.int .u64 0) (.int .u64 (e : Int)) (.slice A2 H.length c2) (.slice none 0 0) (.bool false) (.slice A n c) H (w1.alloc (.cells #[.int .u64 0, .int .u64 (e : Int), .slice A2 H.length c2, .slice none 0 0, .bool false, .slice A n c, .slice none 0 0] 31)) he (HT.out.below B12) (by have := World.block_lt_of_cell? w _ (HT.out 0 (by decide)); have h : 0 < w.heap.size := this; omega) (HR.out.keep (KeepT.of_below (ts := []) B12) (by simp) (by simp)) (HB.out.below B12) HN.out B2.size GV ⟨[], rfl, World.ownsRow_nil _ _ _ _, fun k u s hu => by simp at hu⟩ (Nat.le_refl _))
  have HC := Lib.hid (hb2.below B2)
  have HB12 := Lib.hid B12
  have HG42 := Lib.hid (G41.below' B2)
  have HLT4 := Lib.hid hlt4
  clear hb2 hb1 G4 B01 B1 G41 GV B2 B12 hsz0 hlt4
  refine HROOT.out.mono ?_; rintro r w3 ⟨rv, ev, rfl, hrb, hk3, hbl3, hg3, hs3⟩
  clear HROOT
  obtain ⟨Ar, nr, cr, rfl⟩ := hrb.1.form
  go_wp2_with fail
  refine wp_region_E (fun _ => True) [] (by kernel_rfl) trivial (fun hHeld => ?_)
  refine wpAnyE_take 1 [] (some 24) (v := .slice Ar nr cr) rfl rfl (by kernel_rfl) (by kernel_rfl) (by kernel_rfl) (by kernel_rfl) (by kernel_rfl) (by kernel_rfl) (fun _ _ _ h => h) (by rfl) trivial ?_ ?_
  · intro W _
    go_simp
  simp only [Act.put, List.setIfInBounds_toArray, List.set_cons_zero, List.set_cons_succ]
  refine wpAnyE_take 3 [] (some 26) (v := .nilIface) rfl rfl (by kernel_rfl) (by kernel_rfl) (by kernel_rfl) (by kernel_rfl) (by kernel_rfl) (by kernel_rfl) (fun _ _ _ h => h) (by rfl) trivial ?_ ?_
  · intro W _
    go_simp
  simp only [Act.put, List.setIfInBounds_toArray, List.set_cons_zero, List.set_cons_succ]
  refine wpAnyE_take 4 [] (some 27) (v := .bool true) rfl rfl (by kernel_rfl) (by kernel_rfl) (by kernel_rfl) (by kernel_rfl) (by kernel_rfl) (by kernel_rfl) (fun _ _ _ h => h) (by rfl) trivial ?_ ?_
  · intro W _
    go_simp
  simp only [Act.put, List.setIfInBounds_toArray, List.set_cons_zero, List.set_cons_succ]
  refine wpAnyE_one 0 (by kernel_rfl) rfl (fun K hK => ?_)
  go_simp
  refine hK.out _ _ (fun _ => trivial) ?_
  clear hK K
  have BA : Below w3.heap.size w3 (w3.alloc (.cells #[] 5)).drew := ((Below.refl _ _).alloc (Nat.le_refl _) _).drew
  have WO : (w3.alloc (.cells #[] 5)).drew.ownsRow w3.heap.size 5 1 (.slice (some ⟨w3.heap.size, 0, none⟩) 0 0) 0 [] := World.ownsRow_lit w3 #[] 0 (Nat.le_refl _) (by unfold maxLen; omega) rfl
  refine wpAnyE_one 2 (by kernel_rfl) rfl (fun K hK => ?_)
  refine step_append_bytes rfl 25 rfl (.tmp 23) (.tmp 24) rfl w3.heap.size (.slice (some ⟨w3.heap.size, 0, none⟩) 0 0) WO rfl (.slice Ar nr cr) (Pl.pfold h H) rfl (hrb.below BA) (by have := pfold_len h H HB.out.two; omega) BA.size ?_
  intro v5 w5 hb5 hv5 hbl5
  obtain ⟨A5, c5, rfl⟩ := hv5
  refine hK.out _ _ (fun _ => trivial) ?_
  clear hK K
  simp only [Act.put, List.setIfInBounds_toArray, List.set_cons_zero, List.set_cons_succ]
  generalize (Pl.pfold h H).length = n5 at *
  have B5 := BA.trans hbl5
  have HG5 := hg3.below' B5
  have HGR := (HG42.out.below hbl3 HLT4.out).below' B5
  have hne : w.heap.size ≠ w1.heap.size := by have := HLT4.out; omega
  have hc5 : w5.cell? ⟨w1.heap.size, 3, none⟩ = some (.slice none 0 0) := HG5.cell 3
  have hf5 := HG5.frozen 3
  refine wpAnyE_one 5 (by kernel_rfl) rfl (fun K hK => ?_)
  go_simp
  refine hK.out _ _ (fun _ => trivial) ?_
  clear hK K
  refine wpAnyE_one 6 (by kernel_rfl) rfl (fun K hK => ?_)
  go_simp
  refine hK.out _ _ (fun _ => trivial) ?_
  clear hK K
  have HG6 := HG5.set_ 3 (.slice A5 n5 c5)
  have HGR6 := HGR.far (p := ⟨w1.heap.size, 3, none⟩) hne (.slice A5 n5 c5)
  have KP6 := keep_set (i := 3) HG5 (.slice A5 n5 c5)
  have BL6 : Below w1.heap.size w5 (w5.setCell ⟨w1.heap.size, 3, none⟩ (.slice A5 n5 c5)) := (Below.refl w1.heap.size w5).setCell (p := ⟨w1.heap.size, 3, none⟩) (Nat.le_refl _) _
  generalize w5.setCell ⟨w1.heap.size, 3, none⟩ (.slice A5 n5 c5) = w6 at *
  have hc6 : w6.cell? ⟨w1.heap.size, 4, none⟩ = some (.bool false) := HG6.cell 4
  have hf6 := HG6.frozen 4
  refine wpAnyE_one 7 (by kernel_rfl) rfl (fun K hK => ?_)
  go_simp
  refine hK.out _ _ (fun _ => trivial) ?_
  clear hK K
  refine wpAnyE_one 8 (by kernel_rfl) rfl (fun K hK => ?_)
  go_simp
  refine hK.out _ _ (fun _ => trivial) ?_
  clear hK K
  refine wpAnyE_done (by kernel_rfl) ?_ _
  have HG7 := HG6.set_ 4 (.bool true)
  have HGR7 := HGR6.far (p := ⟨w1.heap.size, 4, none⟩) hne (.bool true)
  have KP7 := keep_set (i := 4) HG6 (.bool true)
  have BL7 : Below w1.heap.size w6 (w6.setCell ⟨w1.heap.size, 4, none⟩ (.bool true)) := (Below.refl w1.heap.size w6).setCell (p := ⟨w1.heap.size, 4, none⟩) (Nat.le_refl _) _
  generalize w6.setCell ⟨w1.heap.size, 4, none⟩ (.bool true) = w7 at *
  have HG7' : Blk w7 w1.heap.size 31 #[.int .u64 0, .int .u64 (e : Int), .slice A2 H.length c2, .slice A5 n5 c5, .bool true, .slice A n c, ev] := HG7
  obtain ⟨x0, x1, x2, x3, x4, x5, x6, z0, z1, z2, z3, z4, z5, z6⟩ := HG7'.seven
  obtain ⟨y0, y1, y2, y3, y4, y5, y6, f0, f1, f2, f3, f4, f5, f6⟩ := HGR7.seven
  have HSEV := Lib.hid hs3
  obtain ⟨_, hul6, HEV, _⟩ := id hs3
  obtain ⟨A6, c6, rfl, _⟩ := own_slice HEV
  have KW := Lib.hid ((hk3.trans (KeepT.of_below B5)).trans ((KP6.mono (ts := [31]) (us := [47, 31]) (by simp)).trans (KP7.mono (by simp))))
  have KW5 := Lib.hid ((KeepT.of_below (ts := [31]) B5).trans (KP6.trans KP7))
  have KW6 := Lib.hid (KP6.trans KP7)
  have BW := Lib.hid ((hbl3.trans (B5.mono (Nat.le_trans (by simp) hbl3.size))).trans (BL6.trans BL7))
  have HB5 := Lib.hid hb5
  have HGR8 := Lib.hid HGR7
  clear HEV hul6 hs3 hk3 hbl3 B5 KP6 KP7 BL6 BL7 hg3 HG5 HG6 HG7 HG7' HGR HGR6 HGR7 hc5 hc6 hf5 hf6 BA WO hrb hbl5 hb5
  go_wp2_with fail
  obtain ⟨q1, q2, q3⟩ := set7 HGR8.out (.int .u64 0) (.int .u64 (e : Int)) (.slice A2 H.length c2) (.slice A5 n5 c5) (.bool true) (.slice A n c) (.slice A6 (Pl.edges h (Pl.pieces 0 e) H 0).length c6)
  refine bodyPost_ret (v := .agg #[.int .u64 0, .int .u64 (e : Int), .slice A2 H.length c2, .slice A5 n5 c5, .bool true, .slice A n c, .slice A6 (Pl.edges h (Pl.pieces 0 e) H 0).length c6]) (results_cell_row rfl _ _ w.heap.size 31 _ (0, 0) _ rfl q1 Tryf.underlying31 rfl (by kernel_rfl)) rfl ?_
  refine ⟨_, _, _, rfl, ?_, ?_, ?_, ?_⟩
  · obtain ⟨us, u1, u2, u3⟩ := ((HC.out.keep KW.out (by decide) (by decide)).keep q2 (by decide) (by decide))
    exact ⟨us, u1, u2.mono (by simp), u3⟩
  · exact (HB5.out.keep KW6.out (by decide)).keep q2 (by decide)
  · obtain ⟨us, u1, u2, u3⟩ := (HSEV.out.keep KW5.out (by decide) (by decide)).keep q2 (by decide) (by decide)
    exact ⟨us, u1, u2.mono (by have := HLT4.out; omega), u3⟩
  · exact (HB12.out.trans (BW.out.mono (by have := HLT4.out; omega))).trans q3
end Go.Proofs.YtpdmmmcelkinjaaFmt
/- impl.rangeOf where the range does not begin at 0. -/
namespace Go.Proofs.YtpdmmmcelkinjaaFmt
open Go.ChangeShapes Go.WideShapes Go.ChangeAt Go.RowKit Go.Extern.Stop Go.Stop Go.Extern
set_option maxRecDepth 20000
theorem fmtBegin : Fmt1 ⟨#[98, 101, 103, 105, 110, 61, 37, 100, 44, 32, 119, 97, 110, 116, 32, 48]⟩ := ⟨by kernel_rfl, fun w => by kernel_rfl⟩
theorem rootHash_err (F : Interp) (h : Pl.HF) (g gf b e gv : Nat) (hv : Value) (w : World) (hF : F.answers w.tape) (hb0 : b ≠ 0) (hR : RangeB w g gf h b e hv) :
    Calls Tryf.prog 46 #[.pointer (some ⟨g, 0, none⟩), .func (.func 47) #[] #[.pointer (some ⟨gv, 0, none⟩)]] w fun r w' => (∃ gE, r = .returned (.tuple #[.slice none 0 0, .iface 98 (.pointer (some ⟨gE, 0, none⟩))])) ∧ Below w.heap.size w w' := by
  have cg1 : w.cell? ⟨g, 1, none⟩ = some (.int .u64 (b : Int)) := hR.1.cell 1
  have t1 : ((b : Int) != 0) = true := by simp; omega
  have t2 : ¬ (b : Int) = 0 := by omega
  have HF := Lib.hid hF
  clear hR hF hb0
  go_enter Tryf.func46, Tryf.ntmps46
  go_wp2_with fail
  have B1 : Below w.heap.size w (w.alloc (.cells #[.iface 27 (.int .u64 (b : Int))] 20)) := (Below.refl _ _).alloc (Nat.le_refl _) _
  refine (errorf_u F _ fmtBegin (b : Int) w.heap.size _ (ans_below HF.out B1) (by simp)).mono ?_
  rintro r w1 ⟨⟨gE, rfl⟩, hb⟩
  go_wp2
  go_ret2
  exact ⟨⟨_, rfl⟩, B1.trans (hb.mono B1.size)⟩
set_option maxHeartbeats 4000000 in
theorem rangeOf_e (F : Interp) (h : Pl.HF) (g gf base b e : Nat) (hv : Value) (H : List (List Nat)) (A : Option Addr) (n c : Nat) (w : World) (hF : F.answers w.tape) (hb0 : b ≠ 0) (hR : RangeB w g gf h b e hv) (hB : BuiltT w base hv H) (hn2 : H.length ≤ 1000) :
    Calls Tryf.prog 30 #[.pointer (some ⟨g, 0, none⟩), .slice A n c] w (RetRange b e H false [] [] (.slice A n c) w) := by
  have HR := Lib.hid hR
  have HB := Lib.hid hB
  have HF := Lib.hid hF
  have HB0' := Lib.hid hb0
  have HBG := Lib.hid (fun W (hW : Below w.heap.size w W) => begin_c g gf h b e hv W (hR.keep (KeepT.of_below (ts := []) hW) (by simp) (by simp)))
  have HEN := Lib.hid (fun W (hW : Below w.heap.size w W) => end_c g gf h b e hv W (hR.keep (KeepT.of_below (ts := []) hW) (by simp) (by simp)))
  have HHA := Lib.hid (fun W (hW : Below w.heap.size w W) => hashes_c g gf h b e hv W (hR.keep (KeepT.of_below (ts := []) hW) (by simp) (by simp)))
  have HCO := Lib.hid (fun W (hW : Below w.heap.size w W) => copied_t hv H W (hB.below hW).hashes (hB.fits hn2) hB.two)
  have hB0 : ∀ o, Below w.heap.size w (w.alloc o) := fun o => (Below.refl _ _).alloc (Nat.le_refl _) o
  have HB0 := Lib.hid hB0
  clear hR hB hF hb0 hB0
  go_enter Tryf.func30, Tryf.ntmps30
  go_wp2_with fail
  refine (HBG.out _ (HB0.out _)).mono ?_; rintro r w1 ⟨rfl, rfl⟩
  go_wp2_with fail
  refine (HEN.out _ (HB0.out _)).mono ?_; rintro r w1 ⟨rfl, rfl⟩
  go_wp2_with fail
  refine (HHA.out _ (HB0.out _)).mono ?_; rintro r w1 ⟨rfl, rfl⟩
  go_wp2_with fail
  refine (HCO.out _ (HB0.out _)).mono ?_; rintro r w1 ⟨v2, rfl, hb2, hb1⟩
  obtain ⟨A2, c2, rfl, _⟩ := hb2.form
  go_wp2_with fail
  have hsz0 : (w.alloc (.cells #[.int .u64 0, .int .u64 0, .slice none 0 0, .slice none 0 0, .bool false, .slice none 0 0, .slice none 0 0] 31)).heap.size = w.heap.size + 1 := by simp
  have G4 := Blk.new w 31 #[.int .u64 0, .int .u64 0, .slice none 0 0, .slice none 0 0, .bool false, .slice none 0 0, .slice none 0 0]
  have B01 := HB0.out (.cells #[.int .u64 0, .int .u64 0, .slice none 0 0, .slice none 0 0, .bool false, .slice none 0 0, .slice none 0 0] 31)
  have B1 := B01.trans (hb1.mono B01.size)
  have G41 := G4.below' hb1
  have hlt4 : w.heap.size < w1.heap.size := by have := hb1.size; omega
  have GV := Blk.new w1 31 #[.int .u64 (b : Int), .int .u64 (e : Int), .slice A2 H.length c2, .slice none 0 0, .bool false, .slice A n c, .slice none 0 0]
  have B2 : Below w1.heap.size w1 (w1.alloc (.cells #[.int .u64 (b : Int), .int .u64 (e : Int), .slice A2 H.length c2, .slice none 0 0, .bool false, .slice A n c, .slice none 0 0] 31)) := (Below.refl _ _).alloc (Nat.le_refl _) _
  have B12 := B1.trans (B2.mono B1.size)
  have HROOT := Lib.hid (rootHash_err F h g gf b e w1.heap.size hv (w1.alloc (.cells #[.int .u64 (b : Int), .int .u64 (e : Int), .slice A2 H.length c2, .slice none 0 0, .bool false, .slice A n c, .slice none 0 0] 31)) (ans_below HF.out B12) HB0'.out (HR.out.keep (KeepT.of_below (ts := []) B12) (by simp) (by simp)))
  have GV2 := Lib.hid GV
  have HC := Lib.hid (hb2.below B2)
  have HB12 := Lib.hid B12
  have HG42 := Lib.hid (G41.below' B2)
  have HLT4 := Lib.hid hlt4
  clear hb2 hb1 G4 B01 B1 G41 GV B2 B12 hsz0 hlt4
  refine HROOT.out.mono ?_; rintro r w3 ⟨⟨gE, rfl⟩, hbl30⟩
  have hg3 := GV2.out.below' hbl30
  have hbl3 := Below.mono hbl30 (show w1.heap.size ≤ (w1.alloc (.cells #[.int .u64 (b : Int), .int .u64 (e : Int), .slice A2 H.length c2, .slice none 0 0, .bool false, .slice A n c, .slice none 0 0] 31)).heap.size by simp)
  have hk3 := KeepT.of_below (ts := [47, 31]) hbl30
  have hs3 : SeenB w3 w1.heap.size (.slice none 0 0) [] := ⟨[], rfl, World.ownsRow_nil _ _ _ _, fun k u s hu => by simp at hu⟩
  have hrb : BytesT w3 (.slice none 0 0) [] := ⟨⟨none, 0, rfl, Nat.zero_le _, fun x hx => (by cases hx), fun h => absurd h (Nat.lt_irrefl 0)⟩, fun h => absurd h (Nat.lt_irrefl 0)⟩
  clear HROOT
  go_wp2_with fail
  refine wp_region_E (fun _ => True) [] (by kernel_rfl) trivial (fun hHeld => ?_)
  refine wpAnyE_take 1 [] (some 24) (v := .slice none 0 0) rfl rfl (by kernel_rfl) (by kernel_rfl) (by kernel_rfl) (by kernel_rfl) (by kernel_rfl) (by kernel_rfl) (fun _ _ _ h => h) (by rfl) trivial ?_ ?_
  · intro W _
    go_simp
  simp only [Act.put, List.setIfInBounds_toArray, List.set_cons_zero, List.set_cons_succ]
  refine wpAnyE_take 3 [] (some 26) (v := .iface 98 (.pointer (some ⟨gE, 0, none⟩))) rfl rfl (by kernel_rfl) (by kernel_rfl) (by kernel_rfl) (by kernel_rfl) (by kernel_rfl) (by kernel_rfl) (fun _ _ _ h => h) (by rfl) trivial ?_ ?_
  · intro W _
    go_simp
  simp only [Act.put, List.setIfInBounds_toArray, List.set_cons_zero, List.set_cons_succ]
  refine wpAnyE_take 4 [] (some 27) (v := .bool false) rfl rfl (by kernel_rfl) (by kernel_rfl) (by kernel_rfl) (by kernel_rfl) (by kernel_rfl) (by kernel_rfl) (fun _ _ _ h => h) (by rfl) trivial ?_ ?_
  · intro W _
    go_simp
  simp only [Act.put, List.setIfInBounds_toArray, List.set_cons_zero, List.set_cons_succ]
  refine wpAnyE_one 0 (by kernel_rfl) rfl (fun K hK => ?_)
  go_simp
  refine hK.out _ _ (fun _ => trivial) ?_
  clear hK K
  have BA : Below w3.heap.size w3 (w3.alloc (.cells #[] 5)).drew := ((Below.refl _ _).alloc (Nat.le_refl _) _).drew
  have WO : (w3.alloc (.cells #[] 5)).drew.ownsRow w3.heap.size 5 1 (.slice (some ⟨w3.heap.size, 0, none⟩) 0 0) 0 [] := World.ownsRow_lit w3 #[] 0 (Nat.le_refl _) (by unfold maxLen; omega) rfl
  refine wpAnyE_one 2 (by kernel_rfl) rfl (fun K hK => ?_)
  refine step_append_bytes rfl 25 rfl (.tmp 23) (.tmp 24) rfl w3.heap.size (.slice (some ⟨w3.heap.size, 0, none⟩) 0 0) WO rfl (.slice none 0 0) [] rfl (hrb.below BA) (by simp) BA.size ?_
  intro v5 w5 hb5 hv5 hbl5
  obtain ⟨A5, c5, rfl⟩ := hv5
  refine hK.out _ _ (fun _ => trivial) ?_
  clear hK K
  simp only [Act.put, List.setIfInBounds_toArray, List.set_cons_zero, List.set_cons_succ]
  generalize ([] : List Nat).length = n5 at *
  have B5 := BA.trans hbl5
  have HG5 := hg3.below' B5
  have HGR := (HG42.out.below hbl3 HLT4.out).below' B5
  have hne : w.heap.size ≠ w1.heap.size := by have := HLT4.out; omega
  have hc5 : w5.cell? ⟨w1.heap.size, 3, none⟩ = some (.slice none 0 0) := HG5.cell 3
  have hf5 := HG5.frozen 3
  refine wpAnyE_one 5 (by kernel_rfl) rfl (fun K hK => ?_)
  go_simp
  refine hK.out _ _ (fun _ => trivial) ?_
  clear hK K
  refine wpAnyE_one 6 (by kernel_rfl) rfl (fun K hK => ?_)
  go_simp
  refine hK.out _ _ (fun _ => trivial) ?_
  clear hK K
  have HG6 := HG5.set_ 3 (.slice A5 n5 c5)
  have HGR6 := HGR.far (p := ⟨w1.heap.size, 3, none⟩) hne (.slice A5 n5 c5)
  have KP6 := keep_set (i := 3) HG5 (.slice A5 n5 c5)
  have BL6 : Below w1.heap.size w5 (w5.setCell ⟨w1.heap.size, 3, none⟩ (.slice A5 n5 c5)) := (Below.refl w1.heap.size w5).setCell (p := ⟨w1.heap.size, 3, none⟩) (Nat.le_refl _) _
  generalize w5.setCell ⟨w1.heap.size, 3, none⟩ (.slice A5 n5 c5) = w6 at *
  have hc6 : w6.cell? ⟨w1.heap.size, 4, none⟩ = some (.bool false) := HG6.cell 4
  have hf6 := HG6.frozen 4
  refine wpAnyE_one 7 (by kernel_rfl) rfl (fun K hK => ?_)
  go_simp
  refine hK.out _ _ (fun _ => trivial) ?_
  clear hK K
  refine wpAnyE_one 8 (by kernel_rfl) rfl (fun K hK => ?_)
  go_simp
  refine hK.out _ _ (fun _ => trivial) ?_
  clear hK K
  refine wpAnyE_done (by kernel_rfl) ?_ _
  have HG7 := HG6.set_ 4 (.bool false)
  have HGR7 := HGR6.far (p := ⟨w1.heap.size, 4, none⟩) hne (.bool false)
  have KP7 := keep_set (i := 4) HG6 (.bool false)
  have BL7 : Below w1.heap.size w6 (w6.setCell ⟨w1.heap.size, 4, none⟩ (.bool false)) := (Below.refl w1.heap.size w6).setCell (p := ⟨w1.heap.size, 4, none⟩) (Nat.le_refl _) _
  generalize w6.setCell ⟨w1.heap.size, 4, none⟩ (.bool false) = w7 at *
  have HG7' : Blk w7 w1.heap.size 31 #[.int .u64 (b : Int), .int .u64 (e : Int), .slice A2 H.length c2, .slice A5 n5 c5, .bool false, .slice A n c, .slice none 0 0] := HG7
  obtain ⟨x0, x1, x2, x3, x4, x5, x6, z0, z1, z2, z3, z4, z5, z6⟩ := HG7'.seven
  obtain ⟨y0, y1, y2, y3, y4, y5, y6, f0, f1, f2, f3, f4, f5, f6⟩ := HGR7.seven
  have HSEV := Lib.hid hs3
  have KW := Lib.hid ((hk3.trans (KeepT.of_below B5)).trans ((KP6.mono (ts := [31]) (us := [47, 31]) (by simp)).trans (KP7.mono (by simp))))
  have KW5 := Lib.hid ((KeepT.of_below (ts := [31]) B5).trans (KP6.trans KP7))
  have KW6 := Lib.hid (KP6.trans KP7)
  have BW := Lib.hid ((hbl3.trans (B5.mono (Nat.le_trans (by simp) hbl3.size))).trans (BL6.trans BL7))
  have HB5 := Lib.hid hb5
  have HGR8 := Lib.hid HGR7
  clear hs3 hk3 hbl30 hbl3 B5 KP6 KP7 BL6 BL7 hg3 HG5 HG6 HG7 HG7' HGR HGR6 HGR7 hc5 hc6 hf5 hf6 BA WO hrb hbl5 hb5
  go_wp2_with fail
  obtain ⟨q1, q2, q3⟩ := set7 HGR8.out (.int .u64 (b : Int)) (.int .u64 (e : Int)) (.slice A2 H.length c2) (.slice A5 n5 c5) (.bool false) (.slice A n c) (.slice none 0 0)
  refine bodyPost_ret (v := .agg #[.int .u64 (b : Int), .int .u64 (e : Int), .slice A2 H.length c2, .slice A5 n5 c5, .bool false, .slice A n c, .slice none 0 0]) (results_cell_row rfl _ _ w.heap.size 31 _ (0, 0) _ rfl q1 Tryf.underlying31 rfl (by kernel_rfl)) rfl ?_
  refine ⟨_, _, _, rfl, ?_, ?_, ?_, ?_⟩
  · obtain ⟨us, u1, u2, u3⟩ := ((HC.out.keep KW.out (by decide) (by decide)).keep q2 (by decide) (by decide))
    exact ⟨us, u1, u2.mono (by simp), u3⟩
  · exact (HB5.out.keep KW6.out (by decide)).keep q2 (by decide)
  · obtain ⟨us, u1, u2, u3⟩ := (HSEV.out.keep KW5.out (by decide) (by decide)).keep q2 (by decide) (by decide)
    exact ⟨us, u1, u2.mono (by have := HLT4.out; omega), u3⟩
  · exact (HB12.out.trans (BW.out.mono (by have := HLT4.out; omega))).trans q3
end Go.Proofs.YtpdmmmcelkinjaaFmt
