/- What the walk of compact.Range.appendImpl rests on. -/
import Derived.Test.YtpdmmmcelkinjaaFmtRangeT
import Derived.Test.YtpdmmmcelkinjaaFmtMergeW
import Derived.Test.YtpdmmmcelkinjaaFmtNode
import Derived.Test.YtpdmmmcelkinjaaFmtGrowP
namespace Go.Proofs.YtpdmmmcelkinjaaFmt
open Go.ChangeShapes Go.WideShapes Go.ChangeAt Go.RowKit
set_option maxRecDepth 20000
theorem pop_low (x t : Nat) (ht : t ≤ 64) : Pl.pop64 (x % 2 ^ t) = Pl.pop t x := by
  unfold Pl.pop64
  have h := Pl.pop_add t (64 - t) (x % 2 ^ t)
  rw [show t + (64 - t) = 64 by omega] at h
  have hz : ∀ f, Pl.pop f 0 = 0 := by
    intro f
    induction f with
    | zero => rfl
    | succ f ih => show 0 % 2 + Pl.pop f (0 / 2) = 0; simp [ih]
  rw [h, Pl.pop_mod, Nat.div_eq_of_lt (Nat.mod_lt _ (Nat.two_pow_pos t)), hz, Nat.add_zero]
theorem nf_nil (w : World) : (binOp BinOp.neq 88 Value.nilFunc Value.nilFunc).run Tryf.prog w = .ok (.bool false) w := by kernel_rfl
theorem nf_fun (k : Nat) (a b : Array Value) (w : World) : (binOp BinOp.neq 88 (Value.func (.func k) a b) Value.nilFunc).run Tryf.prog w = .ok (.bool true) w := by kernel_rfl
theorem pop_split (x t j : Nat) (hj : j < t) : ∃ r, Pl.pop t x = Pl.pop (j + 1) x + r ∧ r ≤ t - (j + 1) := by
  have h := Pl.pop_add (j + 1) (t - (j + 1)) x
  rw [show j + 1 + (t - (j + 1)) = t by omega] at h
  exact ⟨_, h, Pl.pop_le _ _⟩
theorem pop_one (x j : Nat) : Pl.pop (j + 1) x = Pl.pop j x + x / 2 ^ j % 2 := by
  have h := Pl.pop_add j 1 x
  rw [h]
  show _ = _
  simp [Pl.pop]
theorem cells4 {W w' : World} {p1 p2 p3 p4 : Addr} {v1 v2 v3 v4 : Value} (hb : Below W.heap.size W w') (S : W.cell? p1 = some v1 ∧ W.cell? p2 = some v2 ∧ W.cell? p3 = some v3 ∧ W.cell? p4 = some v4) : w'.cell? p1 = some v1 ∧ w'.cell? p2 = some v2 ∧ w'.cell? p3 = some v3 ∧ w'.cell? p4 = some v4 := by
  have up : ∀ {p : Addr} {v : Value}, W.cell? p = some v → w'.cell? p = some v := fun {p} {_} h => (hb.cell (World.block_lt_of_cell? W p h)).trans h
  exact ⟨up S.1, up S.2.1, up S.2.2.1, up S.2.2.2⟩
theorem cells3 {W w' : World} {p1 p2 p3 : Addr} {v1 v2 v3 : Value} (hb : Below W.heap.size W w') (S : W.cell? p1 = some v1 ∧ W.cell? p2 = some v2 ∧ W.cell? p3 = some v3) : w'.cell? p1 = some v1 ∧ w'.cell? p2 = some v2 ∧ w'.cell? p3 = some v3 := by
  have up : ∀ {p : Addr} {v : Value}, W.cell? p = some v → w'.cell? p = some v := fun {p} {_} h => (hb.cell (World.block_lt_of_cell? W p h)).trans h
  exact ⟨up S.1, up S.2.1, up S.2.2⟩
theorem ownBlock_same (A : Option Addr) (n c m d : Nat) : (Value.slice A n c).ownBlock = (Value.slice A m d).ownBlock := by cases A <;> rfl
theorem RangeB.keep {ts : List TypeId} {w w' : World} {g gf : Nat} {h : Pl.HF} {b e : Nat} {hv : Value} (hr : RangeB w g gf h b e hv) (hk : KeepT ts w w') (h1 : 82 ∉ ts) (h2 : 58 ∉ ts) : RangeB w' g gf h b e hv := ⟨hk.blk hr.1 h1, hk.blk hr.2 h2⟩
end Go.Proofs.YtpdmmmcelkinjaaFmt
/- compact.Range.GetRootHash with the visitor of impl.rangeOf, where the range begins at 0. -/
namespace Go.Proofs.YtpdmmmcelkinjaaFmt
open Go.ChangeShapes Go.WideShapes Go.ChangeAt Go.RowKit
set_option maxRecDepth 20000
theorem Tab.under {w w' : World} {base : Nat} (h : Tab w) (hb : Below base w w') (hlt : 0 < base) : Tab w' := fun j hj => (World.cell?_of_block (a := ⟨0, j, none⟩) (hb.block _ hlt)).trans (h j hj)
theorem ctz_is {x a : Nat} (hx0 : x ≠ 0) (hx : x < 18446744073709551616) {q : Nat} (h : x = 2 ^ a * (2 * q + 1)) : Lib.ctz 64 x = a := by
  obtain ⟨m, hm, hk⟩ := ctz_odd x hx0 hx
  generalize Lib.ctz 64 x = c at *
  rcases Nat.lt_trichotomy c a with hlt | heq | hgt
  · exfalso
    obtain ⟨d, rfl⟩ : ∃ d, a = c + 1 + d := ⟨a - (c + 1), by omega⟩
    rw [hm, Nat.pow_add, Nat.pow_succ, Nat.mul_assoc, Nat.mul_assoc] at h
    have := Nat.eq_of_mul_eq_mul_left (Nat.two_pow_pos c) h
    omega
  · exact heq
  · exfalso
    obtain ⟨d, rfl⟩ : ∃ d, c = a + 1 + d := ⟨c - (a + 1), by omega⟩
    rw [h, Nat.pow_add, Nat.pow_succ, Nat.mul_assoc, Nat.mul_assoc] at hm
    have := Nat.eq_of_mul_eq_mul_left (Nat.two_pow_pos a) hm
    omega
/-- The root and the nodes of the edge. -/
def RetRoot (h : Pl.HF) (H1 : List (List Nat)) (e base gv : Nat) (y0 y1 y2 y3 y4 y5 : Value) (w : World) (r : Ending) (w' : World) : Prop :=
  ∃ v av', r = .returned (.tuple #[v, .nilIface]) ∧ BytesT w' v (Pl.pfold h H1) ∧ KeepT [47, 31] w w' ∧ Below base w w' ∧ Blk w' gv 31 #[y0, y1, y2, y3, y4, y5, av'] ∧ SeenB w' base av' (Pl.edges h (Pl.pieces 0 e) H1 0)
set_option maxHeartbeats 4000000 in
theorem root_none (h : Pl.HF) (g gf base1 base e gv : Nat) (hv av y0 y1 y2 y3 y4 y5 : Value) (w : World) (hR : RangeB w g gf h 0 e hv) (hB : BuiltT w base1 hv []) (h0 : (Pl.pieces 0 e).length = 0) (hgv : Blk w gv 31 #[y0, y1, y2, y3, y4, y5, av]) (hS : SeenB w base av []) :
    Calls Tryf.prog 46 #[.pointer (some ⟨g, 0, none⟩), .func (.func 47) #[] #[.pointer (some ⟨gv, 0, none⟩)]] w (RetRoot h [] e base gv y0 y1 y2 y3 y4 y5 w) := by
  obtain ⟨A1, c1, rfl, hc1, hc2⟩ := hB.form
  have cg1 := hR.1.cell 1
  have cg3 := hR.1.cell 3
  have HE : Hid (Pl.edges h (Pl.pieces 0 e) [] 0 = []) := Lib.hid (by unfold Pl.edges; rw [h0]; rfl)
  have HGV := Lib.hid hgv
  have HS := Lib.hid hS
  clear hR hB hgv hS h0
  go_enter Tryf.func46, Tryf.ntmps46
  go_wp2
  go_ret2
  exact ⟨_, _, rfl, ⟨⟨none, 0, rfl, Nat.zero_le _, fun x hx => (by cases hx), fun h => absurd h (Nat.lt_irrefl 0)⟩, fun h => absurd h (Nat.lt_irrefl 0)⟩, KeepT.refl _ _, Below.refl _ _, HGV.out, by rw [HE.out]; exact HS.out⟩
set_option maxHeartbeats 4000000 in
theorem root_some (h : Pl.HF) (ok : h.ok) (g gf base1 base e gv : Nat) (hv av y0 y1 y2 y3 y4 y5 : Value) (H1 : List (List Nat)) (w : World) (he : e < 9223372036854775808) (hT : Tab w) (htb : 0 < base) (hR : RangeB w g gf h 0 e hv) (hB : BuiltT w base1 hv H1) (hn : H1.length = (Pl.pieces 0 e).length) (h1 : 1 ≤ H1.length) (hbg : base ≤ w.heap.size) (hgv : Blk w gv 31 #[y0, y1, y2, y3, y4, y5, av]) (hS : SeenB w base av []) (hbgv : base ≤ gv) :
    Calls Tryf.prog 46 #[.pointer (some ⟨g, 0, none⟩), .func (.func 47) #[] #[.pointer (some ⟨gv, 0, none⟩)]] w (RetRoot h H1 e base gv y0 y1 y2 y3 y4 y5 w) := by
  have HD := Lib.hid (Pl.desc_pieces e (by omega) (e - 0) 0 64 rfl (Nat.zero_le _) (Nat.zero_mod _) (by omega))
  have HP := Lib.hid hn
  have hle : H1.length ≤ 128 := by have := Pl.pieces_len 0 e (by omega); omega
  obtain ⟨gh, ch, gu, ou, cu, rfl, hch, hcell, hbh⟩ := hB.at (H1.length - 1) (by omega)
  have HB := Lib.hid hB
  have HR := Lib.hid hR
  have HBH := Lib.hid hbh
  have HBG := Lib.hid hbg
  have HBV := Lib.hid hbgv
  have HGV := Lib.hid hgv
  have HS := Lib.hid hS
  have HT := Lib.hid hT
  have HTB := Lib.hid htb
  have cg1 := hR.1.cell 1
  have cg2 := hR.1.cell 2
  have cg3 := hR.1.cell 3
  have HPF : Hid (Pl.pfold h (H1.drop (H1.length - 1)) = H1[H1.length - 1]) := Lib.hid (by
    rw [List.drop_eq_getElem_cons (by omega : H1.length - 1 < H1.length), List.drop_eq_nil_of_le (by omega)]; rfl)
  have HTWO := Lib.hid hB.two
  have hl2 := HTWO.out _ (List.getElem_mem (show H1.length - 1 < H1.length by omega))
  generalize H1[H1.length - 1] = lh at *
  have HL2 := Lib.hid hl2
  have hPL : (Pl.pieces 0 e).length = H1.length := hn.symm
  generalize hPP : Pl.pieces 0 e = P at *
  have HPE := Lib.hid (Pl.pos_end P 0 e HD.out)
  have HPP := Lib.hid hPP
  obtain ⟨n1, hn1⟩ : ∃ n1, H1.length = n1 + 1 := ⟨H1.length - 1, by omega⟩
  have HN1 := Lib.hid hn1
  rw [hn1] at hcell hle h1 hch hPL HPF cg3
  rw [Nat.add_sub_cancel] at hcell HPF
  have HLE : Hid (n1 ≤ 1000) := Lib.hid (by omega)
  have i1 : IntKind.i64.wrap (((n1 + 1 : Nat) : Int) - 1) = (n1 : Int) := by rw [IntWalk.i64_in _ (by omega)]; omega
  have i2 : IntKind.i64.wrap (((n1 + 1 : Nat) : Int) - 2) = (n1 : Int) - 1 := by rw [IntWalk.i64_in _ (by omega)]; omega
  have i3 : ¬ ((n1 + 1 : Nat) : Int) = 0 := by omega
  have i4 : (((n1 + 1 : Nat) : Int) == 0) = false := by simp; omega
  have i5 : (n1 : Int) < ((n1 + 1 : Nat) : Int) := by omega
  have hcg3 : w.cell? ⟨g, 3, none⟩ = some (.slice (some ⟨gh, 0, none⟩) (n1 + 1) ch) := cg3
  obtain ⟨n2, hn2⟩ : ∃ n2, n2 = n1 + 1 := ⟨_, rfl⟩
  rw [← hn2] at i1 i2 i3 i4 i5 hcg3 hch
  have HN2 := Lib.hid hn2
  clear hn2
  clear hR hB hbh hgv hbg hbgv hT htb hn hl2 hPL hPP hn1 cg3 hle h1
  have HPE2 : Hid (Pl.pos P 0 (n1 + 1) = e) := Lib.hid (by have := HPE.out; rw [← HP.out, HN1.out] at this; exact this)
  go_enter Tryf.func46, Tryf.ntmps46
  go_wp2_with fail
  go_region_held3 (fun w' => w'.cell? ⟨g, 2, none⟩ = some (.int .u64 (e : Int))) (first | assumption | exact cg2 | fail) (fail)
  go_wp2_with fail
  go_loopw [7, 8, 9, 10, 11] (fun hv iv sv _ _ wr => ∃ (k sz gu1 ou1 cu1 : Nat) (i : Int), k ≤ n1 ∧ i = (k : Int) - 1 ∧ Hid (sz = Pl.pos P 0 (k + 1)) ∧ hv = .slice (some ⟨gu1, ou1, none⟩) 2 cu1 ∧ iv = .int .i64 i ∧ sv = .int .u64 (sz : Int) ∧ Hid (KeepT [47, 31] w wr ∧ Below base w wr ∧ BytesT wr (.slice (some ⟨gu1, ou1, none⟩) 2 cu1) (Pl.pfold h (H1.drop k)) ∧ (Pl.pfold h (H1.drop k)).length = 2 ∧ ∃ av', Blk wr gv 31 #[y0, y1, y2, y3, y4, y5, av'] ∧ SeenB wr base av' (Pl.edges h P H1 k))) (fun _ iv _ _ _ _ => (intOf iv + 1).toNat)
  case atStart => exact ⟨n1, e, gu, ou, cu, _, Nat.le_refl _, rfl, Lib.hid HPE2.out.symm, rfl, rfl, rfl, Lib.hid ⟨(KeepT.refl _ w).drew, (Below.refl _ w).drew, by rw [HPF.out]; exact HBH.out.below ((Below.refl _ w).drew), by rw [HPF.out]; exact HL2.out, _, HGV.out, by
    have : Pl.edges h P H1 n1 = [] := by have := Pl.edges_start h P H1; rw [← HP.out, HN1.out] at this; exact this
    rw [this]; exact HS.out.keep ((KeepT.refl [] w).drew) (by simp) (by simp)⟩⟩
  case round =>
    obtain ⟨k, sz, gu1, ou1, cu1, i, hk, rfl, HSZ, rfl, rfl, rfl, KR⟩ := hrel
    by_cases hk1 : 1 ≤ k
    · obtain ⟨kk, rfl⟩ : ∃ kk, k = kk + 1 := ⟨k - 1, by omega⟩
      rw [show ((kk + 1 : Nat) : Int) - 1 = (kk : Int) by omega]
      have hkP : kk + 1 < P.length := by have := HP.out; have := HN1.out; omega
      obtain ⟨_, b2, _, b4, b5, _⟩ := Pl.pos_desc P 0 e HD.out kk (by omega)
      obtain ⟨_, c2, _, c4, c5, _⟩ := Pl.pos_desc P 0 e HD.out (kk + 1) hkP
      have hl64 := Pl.desc_lt HD.out (K := 64) (by omega) _ (List.getElem_mem (show kk < P.length by omega))
      have hgd : P.getD kk (0, 0) = P[kk]'(by omega) := by rw [List.getD_eq_getElem?_getD, List.getElem?_eq_getElem (by omega)]; rfl
      have HED : Hid (Pl.edge h P H1 kk = (P[kk].1 + 1, Pl.pos P 0 (kk + 1) / 2 ^ (P[kk].1 + 1), Pl.pfold h (H1.drop kk))) := Lib.hid (by unfold Pl.edge; rw [hgd])
      have ha := Pl.and_pred c2
      rw [← c5, ← HSZ.out] at ha
      have hsz : 1 ≤ sz ∧ sz ≤ e := by
        have := Nat.two_pow_pos P[kk + 1].1
        have := HSZ.out
        omega
      obtain ⟨q, hq⟩ := Nat.dvd_of_mod_eq_zero b2
      have hs1 : 1 ≤ Pl.pos P 0 (kk + 1) ∧ Pl.pos P 0 (kk + 1) ≤ e := by
        have := Nat.two_pow_pos P[kk].1
        omega
      have hct := ctz_is (x := Pl.pos P 0 (kk + 1)) (a := P[kk].1) (q := q) (by omega) (by omega) (by rw [b5, hq, Nat.mul_add, Nat.mul_one, Nat.pow_succ, Nat.mul_assoc])
      have HTZ := Lib.hid (fun W (hW : Tab W) => tz_c (Pl.pos P 0 (kk + 1)) (by omega) (by omega) W hW)
      rw [hct] at HTZ
      have HPS := Lib.hid (show Pl.pos P 0 (kk + 1) = Pl.pos P 0 (kk + 1) from rfl)
      clear b2 b4 b5 c2 c4 c5 hq hct hgd
      generalize hs1e : Pl.pos P 0 (kk + 1) = s1 at ha hs1 HTZ HED
      have HS1 := Lib.hid hs1e
      generalize P[kk].1 = l at *
      obtain ⟨L1, hL1⟩ : ∃ L1, L1 = l + 1 := ⟨_, rfl⟩
      obtain ⟨ix, hix⟩ : ∃ ix, ix = s1 / 2 ^ L1 := ⟨_, rfl⟩
      rw [← hL1, ← hix] at HED
      have HL1 := Lib.hid hL1
      have w1 : IntKind.u64.wrap ((sz : Int) - 1) = ((sz - 1 : Nat) : Int) := by rw [IntKind.wrap_u64]; omega
      have w2 : bits .and .u64 (sz : Int) ((sz - 1 : Nat) : Int) = (s1 : Int) := by rw [and_n sz (sz - 1) (by omega) (by omega), ha]
      generalize sz - 1 = sz1 at *
      have w3 : IntKind.u64.wrap (l : Int) = (l : Int) := wrapN l (by omega)
      have w4 : IntKind.u64.wrap ((l : Int) + 1) = (L1 : Int) := by rw [IntKind.wrap_u64]; omega
      have w5 : (s1 : Int) / 2 ^ L1 = (ix : Int) := by rw [hix]; simp
      have w6 : IntKind.i64.wrap ((kk : Int) - 1) = (kk : Int) - 1 := by have := HLE.out; rw [IntWalk.i64_in _ (by omega)]
      have w7 : (kk : Int) < (n2 : Int) := by have := HN2.out; omega
      have w8 : (0 : Int) ≤ (kk : Int) := by omega
      have w9 : min L1 64 = L1 := by omega
      clear hix hL1 hsz hs1 ha hs1e HPS
      have hk3 : kk < H1.length := by have := HN1.out; omega
      obtain ⟨gh', ch', gn, on, cn, eA, _, hcell, hbn⟩ := (HB.out.keep KR.out.1 (by decide) (by decide)).at kk hk3
      injection eA with eA1 eA2 eA3
      injection eA1 with eA1
      injection eA1 with eA1
      subst eA1 eA3
      clear eA2
      have HN := Lib.hid hbn
      have HSD : Hid (Pl.pfold h (H1.drop kk) = h.hc H1[kk] (Pl.pfold h (H1.drop (kk + 1)))) := Lib.hid (by
        rw [List.drop_eq_getElem_cons hk3, Pl.pfold_cons _ _ _ (by simp; have := HN1.out; omega)])
      generalize H1[kk] = lk at hbn HN HSD
      clear hbn hk3
      have RB := Lib.hid (HR.out.keep KR.out.1 (by decide) (by decide))
      rw [HN1.out, ← HN2.out] at RB
      have hc0 : wr.drew.cell? ⟨g, 0, none⟩ = some (.pointer (some ⟨gf, 0, none⟩)) ∧ wr.drew.cell? ⟨gf, 0, none⟩ = some (.func (.func 27) #[hashV h] #[]) ∧ wr.drew.cell? ⟨g, 3, none⟩ = some (.slice (some ⟨gh, 0, none⟩) n2 ch) ∧ wr.drew.cell? ⟨gh, kk, none⟩ = some (.slice (some ⟨gn, on, none⟩) 2 cn) := ⟨RB.out.1.cell 0, RB.out.2.cell 0, RB.out.1.cell 3, hcell⟩
      clear hcell
      go_wp2_with fail
      go_region_held3 (fun w' => w'.cell? ⟨g, 0, none⟩ = some (.pointer (some ⟨gf, 0, none⟩)) ∧ w'.cell? ⟨gf, 0, none⟩ = some (.func (.func 27) #[hashV h] #[]) ∧ w'.cell? ⟨g, 3, none⟩ = some (.slice (some ⟨gh, 0, none⟩) n2 ch) ∧ w'.cell? ⟨gh, kk, none⟩ = some (.slice (some ⟨gn, on, none⟩) 2 cn))
        (first | assumption | exact hc0 | exact cells4 hb' (by assumption) | fail)
        (first | (go_at_call 27; refine (children_t h ok _ _ lk (Pl.pfold h (H1.drop (kk + 1))) wr.drew HN.out.1 KR.out.2.2.1.1).mono ?_; rintro r w1 ⟨v, rfl, hv', hb', hnew⟩; obtain ⟨gu2, ou2, cu2, rfl⟩ := hv'.form2 (Pl.hc_len h _ _)) | fail)
      have BW : Below wr.drew.heap.size wr w1 := (Below.refl _ _).drew.trans hb'
      have hbw : base ≤ wr.heap.size := Nat.le_trans HBG.out KR.out.2.1.size
      have BW2 : Below base w w1 := KR.out.2.1.trans (BW.mono hbw)
      obtain ⟨av1, HGV1, HSN⟩ := KR.out.2.2.2.2
      have HTW : Tab w1 := HT.out.under BW2 HTB.out
      have HTC := Lib.hid (HTZ.out w1 HTW)
      have KN : KeepT [] wr (w1.alloc (.cells #[.int .u64 (L1 : Int), .int .u64 (ix : Int)] 70)) := (KeepT.of_below BW).alloc _
      have BN : Below base w (w1.alloc (.cells #[.int .u64 (L1 : Int), .int .u64 (ix : Int)] 70)) := BW2.alloc (Nat.le_trans hbw BW.size) _
      have HVIS := Lib.hid (rootVisit L1 ix gu2 ou2 cu2 _ gv base _ av1 y0 y1 y2 y3 y4 y5 _ (hv'.below ((Below.refl _ _).alloc (Nat.le_refl _) _)) (Pl.hc_len h _ _) (HSN.keep KN (by simp) (by simp)) (KN.blk HGV1 (by simp)) (by simp [Pl.edges]; have := HP.out; have := HN1.out; have := HLE.out; omega) HBV.out)
      have nf := nf_fun 47 #[] #[.pointer (some ⟨gv, 0, none⟩)]
      clear hb' hnew hc0 HTW
      go_wp2_with fail
      refine HTC.out.mono ?_; rintro r w2 ⟨rfl, rfl⟩
      go_wp2_with fail
      refine (newNode_c _ _ _).mono ?_; rintro r w2 ⟨rfl, rfl⟩
      go_wp2_with fail
      refine HVIS.out.mono ?_; rintro r w3 ⟨rfl, av3, HS3, HG3, HK3, HB3⟩
      go_wp2_with fail
      go_roundw
      case rel => exact ⟨kk, s1, gu2, ou2, cu2, _, by omega, rfl, Lib.hid HS1.out.symm, rfl, by go_num, by go_num, Lib.hid ⟨(KR.out.1.trans (KN.mono (by simp))).trans HK3, BN.trans HB3, by rw [HSD.out]; exact (hv'.below ((Below.refl _ _).alloc (Nat.le_refl _) (.cells #[.int .u64 (L1 : Int), .int .u64 (ix : Int)] 70))).keep HK3 (by decide), by rw [HSD.out]; exact Pl.hc_len h _ _, av3, HG3, by
        rw [Pl.edges_step h P H1 kk (by have := HP.out; have := HN1.out; omega), HED.out, HSD.out]
        exact HS3⟩⟩
      case measure => simp [intOf]
    · obtain rfl : k = 0 := by omega
      have w8 : ¬ (0 : Int) ≤ ((0 : Nat) : Int) - 1 := by omega
      obtain ⟨av1, HGV1, HSN⟩ := KR.out.2.2.2.2
      go_wp2_with fail
      go_ret2
      refine ⟨_, av1, rfl, ?_, KR.out.1, KR.out.2.1, HGV1, ?_⟩
      · have := KR.out.2.2.1
        rwa [List.drop_zero] at this
      · rw [HPP.out]; exact HSN
end Go.Proofs.YtpdmmmcelkinjaaFmt
