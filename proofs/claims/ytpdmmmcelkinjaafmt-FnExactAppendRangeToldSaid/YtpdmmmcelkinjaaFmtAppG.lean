/- compact.Range.appendImpl: the visitor of impl.grow, one leaf. -/
import Derived.Test.YtpdmmmcelkinjaaFmtAppB
import Derived.Test.YtpdmmmcelkinjaaFmtMergeW
import Derived.Laws.EntriesVeiled
import Derived.OwnWalk
namespace Go.Proofs.YtpdmmmcelkinjaaFmt
open Go.ChangeShapes Go.WideShapes Go.ChangeAt Go.RowKit
set_option maxRecDepth 20000
set_option maxHeartbeats 4000000 in
theorem appG (h : Pl.HF) (ok : h.ok) (g gf base b m e : Nat) (hv : Value) (H1 : List (List Nat)) (gu ou cu : Nat) (l0 : List Nat) (gv : Nat) (av : Value) (S : List SeenN) (w : World) (hb : b ≤ m) (hm : m < e) (he : e < 9223372036854775808) (hT : Tab w) (hR : RangeB w g gf h b m hv) (hB : BuiltT w base hv H1) (hbg : base ≤ g) (hs : BytesT w (.slice (some ⟨gu, ou, none⟩) 2 cu) l0) (hl0 : l0.length = 2) (hn1 : H1.length ≤ 1000) (hgv : Blk w gv 29 #[av]) (hS : SeenB w base av S) (hbgv : base ≤ gv) (hSn : S.length ≤ 900000)
    (hp1 : Pl.pop (Pl.hi b m e - 1 - Pl.lo m) (m / 2 ^ Pl.lo m) ≤ H1.length) (hp2 : Pl.hi b m e - 1 - Pl.lo m - Pl.pop (Pl.hi b m e - 1 - Pl.lo m) (m / 2 ^ Pl.lo m) ≤ 0) (h64 : Pl.hi b m e ≤ 64) :
    Calls Tryf.prog 51 #[.pointer (some ⟨g, 0, none⟩), .int .u64 (e : Int), .slice (some ⟨gu, ou, none⟩) 2 cu, .slice none 0 0, .func (.func 49) #[] #[.pointer (some ⟨gv, 0, none⟩)]] w fun r w' => r = .returned .nilIface ∧ KeepT [82, 28, 47, 29] w w' ∧ Below base w w' ∧ ∃ hv', RangeB w' g gf h b e hv' ∧ BuiltT w' base hv' (Pl.merged h H1 [] (m / 2 ^ Pl.lo m) l0 (Pl.hi b m e - 1 - Pl.lo m)) ∧ ∃ av', Blk w' gv 29 #[av'] ∧ SeenB w' base av' (S ++ Pl.toldM h H1 [] (m / 2 ^ Pl.lo m) l0 (Pl.lo m) (Pl.hi b m e - 1 - Pl.lo m)) := by
  have HM := Lib.hid (fun W (hW : Tab W) => merge_c b m e hb hm (by omega) W hW)
  have hlo : Pl.lo m ≤ 64 := by
    unfold Pl.lo
    split
    · omega
    · have := ctz_odd m (by assumption) (by omega)
      omega
  have hm0 : m / 2 ^ Pl.lo m < 18446744073709551616 := Nat.lt_of_le_of_lt (Nat.div_le_self _ _) (by omega)
  obtain ⟨A1, c1, rfl, hc1, hc2⟩ := hB.form
  have HSL := Lib.hid hSn
  have HBV := Lib.hid hbgv
  clear hSn hbgv
  have HB := Lib.hid hB
  have HR := Lib.hid hR
  have HS := Lib.hid hs
  have HBG := Lib.hid (show base ≤ g ∧ g < w.heap.size from ⟨hbg, hR.1.lt⟩)
  have cg0 := hR.1.cell 0
  have cg1 := hR.1.cell 1
  have cg2 := hR.1.cell 2
  have cg3 := hR.1.cell 3
  have hlt : g < w.heap.size := hR.1.lt
  have hx0 : ((m : Int) / 2 ^ Pl.lo m) = ((m / 2 ^ Pl.lo m : Nat) : Int) := by simp
  generalize hlo' : Pl.lo m = lo at *
  generalize hH : Pl.hi b m e - 1 = H at *
  have hH63 : H ≤ 63 := by omega
  generalize hx : m / 2 ^ lo = x at *
  have HX := Lib.hid hx
  have hT' : Tab w.drew := hT.drew
  generalize hn : H1.length = n1 at *
  have HN1 := Lib.hid hn
  clear hB hR hs hb hm hT hx hlo' hH h64 he hn
  obtain ⟨t, ht⟩ : ∃ t, t = H - lo := ⟨_, rfl⟩
  rw [← ht] at hp1 hp2 ⊢
  have ht63 : t ≤ 63 := by omega
  have ho := pop_low x t (by omega)
  have HO := Lib.hid (ones_c (x % 2 ^ t) (Nat.lt_of_le_of_lt (Nat.mod_le _ _) hm0))
  rw [ho] at HO
  have ham := and_mask x t hm0 ht63
  obtain ⟨pw1, pw2⟩ := pow_wrap t ht63
  have hmin : min t 64 = t := by omega
  generalize x % 2 ^ t = xm at *
  generalize 2 ^ t - 1 = mk at *
  generalize hps : Pl.pop t x = ps at *
  have hpst : ps ≤ t := by rw [← hps]; exact Pl.pop_le _ _
  have HPS := Lib.hid hps
  clear ho hps
  have s1 : ¬ (n1 : Int) < (ps : Int) := by omega
  have dd1 : decide (n1 < ps) = false := by simp; omega
  have dd2 : decide (0 < t - ps) = false := by simp; omega
  have s2 : IntKind.i64.wrap (t : Int) = (t : Int) := IntWalk.i64_in _ (by omega)
  have s3 : IntKind.i64.wrap ((t : Int) - (ps : Int)) = ((t - ps : Nat) : Int) := by rw [IntWalk.i64_in _ (by omega)]; omega
  have s4 : ¬ (0 : Int) < ((t - ps : Nat) : Int) := by omega
  obtain ⟨zs, hzs⟩ : ∃ zs, zs = t - ps := ⟨_, rfl⟩
  have HZS := Lib.hid hzs
  rw [← hzs] at hp2 s3 s4 dd2
  clear hzs
  by_cases hlt2 : H < lo
  · obtain rfl : t = 0 := by omega
    obtain rfl : ps = 0 := by omega
    obtain rfl : zs = 0 := by have := HZS.out; omega
    have hi1 : (H : Int) < (lo : Int) := by omega
    have ham0 : bits .and .u64 (x : Int) 0 = 0 := by
      have := and_n x 0 hm0 (by decide)
      simpa using this
    have n20 : ¬ (0 : Int) < 0 := by omega
    have HO : Hid (∀ W, Calls Tryf.prog 55 #[.int .u64 0] W fun e w' => e = .returned (.int .i64 0) ∧ W = w') := Lib.hid (fun W => by
      have := ones_c 0 (by decide) W
      rwa [show Pl.pop64 0 = 0 by decide] at this)
    clear ham pw1 pw2 s1 s2 s3 s4 hmin ht hlt2 dd1 dd2
    go_enter Tryf.func51, Tryf.ntmps51
    go_wp2_with fail
    go_region_held3 (fun w' => w'.cell? ⟨g, 1, none⟩ = some (.int .u64 (b : Int)) ∧ w'.cell? ⟨g, 2, none⟩ = some (.int .u64 (m : Int)))
      (first | assumption | exact ⟨cg1, cg2⟩)
      (first | (go_at_call 57; refine (HM.out _ hT').mono ?_; rintro r w' ⟨rfl, rfl⟩) | fail)
    go_wp2_with fail
    refine (HO.out _).mono ?_; rintro r w' ⟨rfl, rfl⟩
    go_wp2_with fail
    go_loopw [2, 13, 18, 19, 20] (fun sv iv i1v i2v hv wr => ∃ j q i1 i2 hh gu1 ou1 cu1 : Nat, j ≤ 0 ∧ Hid (q = x / 2 ^ j ∧ i1 = n1 - Pl.pop j x ∧ hh = lo + j) ∧ Hid (i2 = j - Pl.pop j x) ∧ sv = .slice (some ⟨gu1, ou1, none⟩) 2 cu1 ∧ iv = .int .u64 (q : Int) ∧ i1v = .int .i64 (i1 : Int) ∧ i2v = .int .i64 (i2 : Int) ∧ hv = .int .u64 (hh : Int) ∧ Hid (KeepT [47, 29] w wr ∧ Below base w wr ∧ BytesT wr (.slice (some ⟨gu1, ou1, none⟩) 2 cu1) (Pl.sdv h H1 [] x l0 j) ∧ (Pl.sdv h H1 [] x l0 j).length = 2 ∧ ∃ av', Blk wr gv 29 #[av'] ∧ SeenB wr base av' (S ++ Pl.toldM h H1 [] x l0 lo j))) (fun _ _ _ _ hv _ => lo + 0 - (intOf hv).toNat)
    case atStart => exact ⟨0, x, n1, 0, lo, gu, ou, cu, Nat.zero_le _, Lib.hid ⟨by simp, by simp [Pl.pop], rfl⟩, Lib.hid rfl, rfl, rfl, rfl, rfl, rfl, Lib.hid ⟨(KeepT.refl _ w).drew, (Below.refl _ w).drew, HS.out.below ((Below.refl _ w).drew), hl0, ⟨_, hgv, by simpa [Pl.toldM] using (hS.keep ((KeepT.refl [] w).drew) (by simp) (by simp))⟩⟩⟩
    case round =>
      obtain ⟨j, q, i1, i2, hh, gu1, ou1, cu1, hjt, HJ0, HJ1, rfl, rfl, rfl, rfl, rfl, KR⟩ := hrel
      have RB := Lib.hid (HR.out.keep KR.out.1 (by decide) (by decide))
      obtain rfl : j = 0 := by omega
      have ht0 : ¬ (hh : Int) < (lo : Int) := by have := HJ0.out.2.2; omega
      go_wp2_with fail
      have hi1 : i1 ≤ n1 := by have := HJ0.out.2.1; omega
      have RL := Lib.hid ((HB.out.keep KR.out.1 (by decide) (by decide)))
      have r1 := fun W => slice_head RL.out i1 (by rw [HN1.out]; exact hi1) W
      have RT := Lib.hid (RL.out.take i1 (by rw [HN1.out]; exact hi1))
      have HLT := Lib.hid (show (H1.take i1).length = i1 by simp; have := HN1.out; omega)
      have hi2 : i2 = 0 := by have := HJ1.out; omega
      have r2 : ∀ W, (Instr.slice 25 (.slice none 0 0) (some (.int .i64 (i2 : Int))) none none).run Tryf.prog W = .ok (.slice none 0 0) W := fun W => by
        rw [hi2]
        have := hashes_tail none 0 0 0 (Nat.le_refl _) W
        simpa using this
      clear hi2
      obtain ⟨av2, HGV, HSN⟩ := KR.out.2.2.2.2
      have S0 : wr.drew.cell? ⟨g, 3, none⟩ = some (.slice A1 n1 c1) := RB.out.1.cell 3
      refine wp_region_E (fun w' => w'.cell? ⟨g, 3, none⟩ = some (.slice A1 n1 c1)) [14, 15, 16] (by kernel_rfl) S0 (fun hHeld => ?_)
      refine wpAnyE_take 0 [14, 15, 16] (some 143) (v := .pointer (some ⟨g, 0, none⟩)) rfl rfl (by kernel_rfl) (by kernel_rfl) (by kernel_rfl) (by kernel_rfl) (by kernel_rfl) (by kernel_rfl) (fun _ _ _ h => h) (by rfl) hHeld ?_ ?_
      · intro W hS
        go_simp
      simp only [Act.put, List.setIfInBounds_toArray, List.set_cons_zero, List.set_cons_succ]
      refine wpAnyE_take 1 [14, 15, 16] (some 144) (v := .pointer (some ⟨g, 0, none⟩)) rfl rfl (by kernel_rfl) (by kernel_rfl) (by kernel_rfl) (by kernel_rfl) (by kernel_rfl) (by kernel_rfl) (fun _ _ _ h => h) (by rfl) hHeld ?_ ?_
      · intro W hS
        go_simp
      simp only [Act.put, List.setIfInBounds_toArray, List.set_cons_zero, List.set_cons_succ]
      refine wpAnyE_take 2 [14, 15, 16] (some 145) (v := .pointer (some ⟨g, 0, none⟩)) rfl rfl (by kernel_rfl) (by kernel_rfl) (by kernel_rfl) (by kernel_rfl) (by kernel_rfl) (by kernel_rfl) (fun _ _ _ h => h) (by rfl) hHeld ?_ ?_
      · intro W hS
        go_simp
      simp only [Act.put, List.setIfInBounds_toArray, List.set_cons_zero, List.set_cons_succ]
      refine wpAnyE_take 3 [14, 15, 16] (some 146) (v := .pointer (some ⟨g, 3, none⟩)) rfl rfl (by kernel_rfl) (by kernel_rfl) (by kernel_rfl) (by kernel_rfl) (by kernel_rfl) (by kernel_rfl) (fun _ _ _ h => h) (by rfl) hHeld ?_ ?_
      · intro W hS
        go_simp
      simp only [Act.put, List.setIfInBounds_toArray, List.set_cons_zero, List.set_cons_succ]
      refine wpAnyE_take 4 [14, 15, 16] (some 147) (v := .slice A1 n1 c1) rfl rfl (by kernel_rfl) (by kernel_rfl) (by kernel_rfl) (by kernel_rfl) (by kernel_rfl) (by kernel_rfl) (fun _ _ _ h => h) (by rfl) hHeld ?_ ?_
      · intro W hS
        go_simp
      simp only [Act.put, List.setIfInBounds_toArray, List.set_cons_zero, List.set_cons_succ]
      refine wpAnyE_take 5 [14, 15, 16] (some 148) (v := .int .i64 (i1 : Int)) rfl rfl (by kernel_rfl) (by kernel_rfl) (by kernel_rfl) (by kernel_rfl) (by kernel_rfl) (by kernel_rfl) (fun _ _ _ h => h) (by rfl) hHeld ?_ ?_
      · intro W hS
        go_simp
      simp only [Act.put, List.setIfInBounds_toArray, List.set_cons_zero, List.set_cons_succ]
      refine wpAnyE_take 6 [14, 15, 16] (some 149) (v := .slice A1 i1 c1) rfl rfl (by kernel_rfl) (by kernel_rfl) (by kernel_rfl) (by kernel_rfl) (by kernel_rfl) (by kernel_rfl) (fun _ _ _ h => h) (by rfl) hHeld ?_ ?_
      · intro W hS
        go_simp
      simp only [Act.put, List.setIfInBounds_toArray, List.set_cons_zero, List.set_cons_succ]
      refine wpAnyE_take 7 [14, 15, 16] (some 150) (v := .slice (some ⟨gu1, ou1, none⟩) 2 cu1) rfl rfl (by kernel_rfl) (by kernel_rfl) (by kernel_rfl) (by kernel_rfl) (by kernel_rfl) (by kernel_rfl) (fun _ _ _ h => h) (by rfl) hHeld ?_ ?_
      · intro W hS
        go_simp
      simp only [Act.put, List.setIfInBounds_toArray, List.set_cons_zero, List.set_cons_succ]
      refine wpAnyE_take 10 [14, 15, 16] (some 153) (v := .slice none 0 0) rfl rfl (by kernel_rfl) (by kernel_rfl) (by kernel_rfl) (by kernel_rfl) (by kernel_rfl) (by kernel_rfl) (fun _ _ _ h => h) (by rfl) hHeld ?_ ?_
      · intro W hS
        go_simp
      simp only [Act.put, List.setIfInBounds_toArray, List.set_cons_zero, List.set_cons_succ]
      refine wpAnyE_take 11 [14, 15, 16] (some 154) (v := .int .i64 (i2 : Int)) rfl rfl (by kernel_rfl) (by kernel_rfl) (by kernel_rfl) (by kernel_rfl) (by kernel_rfl) (by kernel_rfl) (fun _ _ _ h => h) (by rfl) hHeld ?_ ?_
      · intro W hS
        go_simp
      simp only [Act.put, List.setIfInBounds_toArray, List.set_cons_zero, List.set_cons_succ]
      refine wpAnyE_take 12 [14, 15, 16] (some 155) (v := .slice none 0 0) rfl rfl (by kernel_rfl) (by kernel_rfl) (by kernel_rfl) (by kernel_rfl) (by kernel_rfl) (by kernel_rfl) (fun _ _ _ h => h) (by rfl) hHeld ?_ ?_
      · intro W hS
        go_simp
      simp only [Act.put, List.setIfInBounds_toArray, List.set_cons_zero, List.set_cons_succ]
      refine wpAnyE_one 8 (by kernel_rfl) rfl (fun K hK => ?_)
      go_simp
      have BA : Below wr.heap.size wr (wr.alloc (.cells #[.slice (some ⟨gu1, ou1, none⟩) 2 cu1] 28)).drew := ((Below.refl _ _).alloc (Nat.le_refl _) _).drew
      have KA0 := KeepT.of_below (ts := []) BA
      have BA0 : Below base w (wr.alloc (.cells #[.slice (some ⟨gu1, ou1, none⟩) 2 cu1] 28)).drew := KR.out.2.1.trans (BA.mono (Nat.le_trans (Nat.le_trans HBG.out.1 (Nat.le_of_lt HBG.out.2)) KR.out.2.1.size))
      have HG1 := KA0.blk RB.out.1 (by simp)
      have hHeld := HG1.cell 3
      refine hK.out _ _ (fun _ => hHeld) ?_
      clear hK K
      refine wpAnyE_one 9 (by kernel_rfl) rfl (fun K hK => ?_)
      refine step_append_bt rfl 152 rfl (.tmp 149) (.tmp 151) rfl base A1 i1 c1 (H1.take i1) (RT.out.keep KA0 (by simp) (by simp)) HLT.out rfl wr.heap.size (.slice (some ⟨gu1, ou1, none⟩) 2 cu1) (Pl.sdv h H1 [] x l0 0) rfl (by simp) (KR.out.2.2.1.below BA) KR.out.2.2.2.1 (by omega) (by have := KR.out.2.1.size; have := BA.size; have := HBG.out; omega) ?_
      intro A2 c2 w2 hB2 hK2 hg2 hb2
      have HG2 := hK2.blk HG1 (by decide)
      refine hK.out _ _ (fun _ => HG2.cell 3) ?_
      clear hK K
      simp only [Act.put, List.setIfInBounds_toArray, List.set_cons_zero, List.set_cons_succ]
      refine wpAnyE_one 13 (by kernel_rfl) rfl (fun K hK => ?_)
      obtain ⟨us3, hl3, ho3, hb3⟩ := id hB2
      obtain ⟨i0, hi0, _, _, _⟩ := info_parts bytesInfo
      refine step_append_nil rfl 156 rfl (.tmp 152) (.tmp 155) 25 rfl base 28 i0 1 Tryf.underlying25 hi0 (.slice A2 (i1 + 1) c2) _ us3 ho3 rfl 0 rfl ?_
      have HMG : Pl.merged h H1 [] x l0 0 = H1.take i1 ++ [Pl.sdv h H1 [] x l0 0] := by
        unfold Pl.merged
        rw [HN1.out, ← HJ0.out.2.1]
        simp
      refine hK.out _ _ (fun _ => HG2.cell 3) ?_
      clear hK K
      simp only [Act.put, List.setIfInBounds_toArray, List.set_cons_zero, List.set_cons_succ]
      refine wpAnyE_one 14 (by kernel_rfl) rfl (fun K hK => ?_)
      go_simp
      refine hK.out _ _ (fun h => absurd (by simp) h) ?_
      clear hK K
      refine wpAnyE_one 15 (by kernel_rfl) rfl (fun K hK => ?_)
      go_simp
      refine hK.out _ _ (fun h => absurd (by simp) h) ?_
      clear hK K
      have hc3 : w2.cell? ⟨g, 3, none⟩ = some (.slice A1 n1 c1) := HG2.cell 3
      have hf3 := HG2.frozen 3
      refine wpAnyE_one 16 (by kernel_rfl) rfl (fun K hK => ?_)
      go_simp
      refine hK.out _ _ (fun h => absurd (by simp) h) ?_
      clear hK K
      refine wpAnyE_done (by kernel_rfl) ?_ _
      have HG5 := HG2.set_ 3 (.slice A2 (i1 + 1) c2)
      have hc5 : (w2.setCell ⟨g, 3, none⟩ (.slice A2 (i1 + 1) c2)).cell? ⟨g, 2, none⟩ = some (.int .u64 (m : Int)) := HG5.cell 2
      have hf5 := HG5.frozen 2
      have KX : KeepT [28] wr w2 := KA0.mono (by decide) |>.trans hK2
      have KY : KeepT [82] w2 ((w2.setCell ⟨g, 3, none⟩ (.slice A2 (i1 + 1) c2)).setCell ⟨g, 2, none⟩ (.int .u64 (e : Int))) := (keep_set HG2 (.slice A2 (i1 + 1) c2)).trans (keep_set HG5 (.int .u64 (e : Int)))
      have KK : KeepT [82, 28, 47, 29] w ((w2.setCell ⟨g, 3, none⟩ (.slice A2 (i1 + 1) c2)).setCell ⟨g, 2, none⟩ (.int .u64 (e : Int))) := ((KR.out.1.mono (by decide)).trans (KX.mono (by decide))).trans (KY.mono (by decide))
      have BB : Below base w ((w2.setCell ⟨g, 3, none⟩ (.slice A2 (i1 + 1) c2)).setCell ⟨g, 2, none⟩ (.int .u64 (e : Int))) := ((BA0.trans hb2).setCell HBG.out.1 _).setCell HBG.out.1 _
      have HFIN : RangeB ((w2.setCell ⟨g, 3, none⟩ (.slice A2 (i1 + 1) c2)).setCell ⟨g, 2, none⟩ (.int .u64 (e : Int))) g gf h b e (.slice A2 (i1 + 1) c2) := ⟨HG5.set_ 2 (.int .u64 (e : Int)), KK.blk HR.out.2 (by decide)⟩
      have HFB := hB2.keep KY (by decide) (by decide)
      rw [← HMG] at HFB
      have HGV2 := KY.blk (KX.blk HGV (by decide)) (by decide)
      have HSN2 := (HSN.keep KX (by decide) (by decide)).keep KY (by decide) (by decide)
      go_wp2
      go_ret
      exact ⟨rfl, KK, BB, _, HFIN, HFB, _, HGV2, HSN2⟩
  · have HHt := Lib.hid (show H = lo + t by omega)
    have hi1 : ¬ (H : Int) < (lo : Int) := by omega
    have s0 : IntKind.u64.wrap ((H : Int) - (lo : Int)) = (t : Int) := by rw [IntKind.wrap_u64]; omega
    clear ht
    go_enter Tryf.func51, Tryf.ntmps51
    go_wp2_with fail
    go_region_held3 (fun w' => w'.cell? ⟨g, 1, none⟩ = some (.int .u64 (b : Int)) ∧ w'.cell? ⟨g, 2, none⟩ = some (.int .u64 (m : Int)))
      (first | assumption | exact ⟨cg1, cg2⟩)
      (first | (go_at_call 57; refine (HM.out _ hT').mono ?_; rintro r w' ⟨rfl, rfl⟩) | fail)
    go_wp2_with fail
    refine (HO.out _).mono ?_; rintro r w' ⟨rfl, rfl⟩
    go_wp2_with fail
    go_loopw [2, 13, 18, 19, 20] (fun sv iv i1v i2v hv wr => ∃ j q i1 i2 hh gu1 ou1 cu1 : Nat, j ≤ t ∧ Hid (q = x / 2 ^ j ∧ i1 = n1 - Pl.pop j x ∧ hh = lo + j) ∧ Hid (i2 = j - Pl.pop j x) ∧ sv = .slice (some ⟨gu1, ou1, none⟩) 2 cu1 ∧ iv = .int .u64 (q : Int) ∧ i1v = .int .i64 (i1 : Int) ∧ i2v = .int .i64 (i2 : Int) ∧ hv = .int .u64 (hh : Int) ∧ Hid (KeepT [47, 29] w wr ∧ Below base w wr ∧ BytesT wr (.slice (some ⟨gu1, ou1, none⟩) 2 cu1) (Pl.sdv h H1 [] x l0 j) ∧ (Pl.sdv h H1 [] x l0 j).length = 2 ∧ ∃ av', Blk wr gv 29 #[av'] ∧ SeenB wr base av' (S ++ Pl.toldM h H1 [] x l0 lo j))) (fun _ _ _ _ hv _ => lo + t - (intOf hv).toNat)
    case atStart => exact ⟨0, x, n1, 0, lo, gu, ou, cu, Nat.zero_le _, Lib.hid ⟨by simp, by simp [Pl.pop], rfl⟩, Lib.hid rfl, rfl, rfl, rfl, rfl, rfl, Lib.hid ⟨(KeepT.refl _ w).drew, (Below.refl _ w).drew, HS.out.below ((Below.refl _ w).drew), hl0, ⟨_, hgv, by simpa [Pl.toldM] using (hS.keep ((KeepT.refl [] w).drew) (by simp) (by simp))⟩⟩⟩
    case round =>
      obtain ⟨j, q, i1, i2, hh, gu1, ou1, cu1, hjt, HJ0, HJ1, rfl, rfl, rfl, rfl, rfl, KR⟩ := hrel
      have RB := Lib.hid (HR.out.keep KR.out.1 (by decide) (by decide))
      by_cases hlt3 : j < t
      · have tt : (hh : Int) < (H : Int) := by have := HJ0.out.2.2; have := HHt.out; omega
        have HJP : Hid (q % 2 + Pl.pop j x ≤ n1 ∧ j + 1 - (Pl.pop j x + q % 2) ≤ zs) := Lib.hid (by
          obtain ⟨r, hr1, hr2⟩ := pop_split x t j hlt3
          rw [HPS.out, pop_one, ← HJ0.out.1] at hr1
          have := HZS.out
          omega)
        have hq64 : q < 18446744073709551616 := by rw [HJ0.out.1]; exact Nat.lt_of_le_of_lt (Nat.div_le_self _ _) hm0
        have hqb : bits .and .u64 (q : Int) 1 = ((q % 2 : Nat) : Int) := by rw [← Nat.and_one_is_mod]; exact and_n q 1 hq64 (by decide)
        obtain ⟨h2, hh2e⟩ : ∃ h2, h2 = hh + 1 := ⟨_, rfl⟩
        have hh1 : IntKind.u64.wrap ((hh : Int) + 1) = (h2 : Int) := by have := HJ0.out.2.2; rw [IntKind.wrap_u64]; omega
        have HH2 := Lib.hid hh2e
        obtain ⟨q2, hq2e⟩ : ∃ q2, q2 = q / 2 := ⟨_, rfl⟩
        have HQ2 := Lib.hid hq2e
        have hq2 : (q : Int) / 2 = (q2 : Int) := by rw [hq2e]; simp
        clear hq2e hh2e
        rcases Nat.mod_two_eq_zero_or_one q with hqm | hqm
        · generalize hqbe : q % 2 = qb at *
          have hqb2 := hqb
          exfalso
          have := HJP.out.2
          have := Pl.pop_le j x
          omega
        · generalize hqbe : q % 2 = qb at *
          have hqb2 := hqb
          have hi1 : 1 ≤ i1 := by have := HJP.out.1; have := HJ0.out.2.1; omega
          have hk3 : i1 - 1 < H1.length := by have := HN1.out; have := HJ0.out.2.1; omega
          obtain ⟨gh, ch, gn, on, cn, eA, hch, hcell, hbn⟩ := (HB.out.keep KR.out.1 (by decide) (by decide)).at (i1 - 1) hk3
          rw [HN1.out] at eA
          injection eA with eA1 eA2 eA3
          have HN := Lib.hid hbn
          have HSD : Hid (Pl.sdv h H1 [] x l0 (j + 1) = h.hc H1[i1 - 1] (Pl.sdv h H1 [] x l0 j)) := Lib.hid (by
            rw [Pl.sdv, ← HJ0.out.1, if_neg (by omega), List.getD_eq_getElem?_getD, HN1.out, show n1 - 1 - Pl.pop j x = i1 - 1 by rw [HJ0.out.2.1]; omega, List.getElem?_eq_getElem hk3]
            rfl)
          generalize H1[i1 - 1] = l2 at hbn HN HSD
          clear hbn hk3
          have hd1 : IntKind.i64.wrap ((i1 : Int) - 1) = ((i1 - 1 : Nat) : Int) := by rw [IntWalk.i64_in _ (by have := HJ0.out.2.1; omega)]; omega
          have hbd : ((i1 - 1 : Nat) : Int) < (n1 : Int) := by have := HJ0.out.2.1; omega
          have HI3 : Hid (i1 - 1 = n1 - Pl.pop (j + 1) x) := Lib.hid (by rw [pop_one, ← HJ0.out.1, HJ0.out.2.1]; omega)
          have HI2 : Hid (i2 = j + 1 - Pl.pop (j + 1) x) := Lib.hid (by rw [pop_one, ← HJ0.out.1, HJ1.out]; have := Pl.pop_le j x; omega)
          generalize i1 - 1 = i3 at *
          have tb : ¬ ((qb : Nat) : Int) = 0 := by omega
          have tb2 : ((qb : Int) == 0) = false := by simp; omega
          subst eA1 eA3
          have hc0 : wr.drew.cell? ⟨g, 0, none⟩ = some (.pointer (some ⟨gf, 0, none⟩)) ∧ wr.drew.cell? ⟨gf, 0, none⟩ = some (.func (.func 27) #[hashV h] #[]) ∧ wr.drew.cell? ⟨g, 3, none⟩ = some (.slice (some ⟨gh, 0, none⟩) n1 c1) ∧ wr.drew.cell? ⟨gh, i3, none⟩ = some (.slice (some ⟨gn, on, none⟩) 2 cn) := ⟨RB.out.1.cell 0, RB.out.2.cell 0, RB.out.1.cell 3, hcell⟩
          clear hcell hqb
          go_wp2_with fail
          go_region_held3 (fun w' => w'.cell? ⟨g, 0, none⟩ = some (.pointer (some ⟨gf, 0, none⟩)) ∧ w'.cell? ⟨gf, 0, none⟩ = some (.func (.func 27) #[hashV h] #[]) ∧ w'.cell? ⟨g, 3, none⟩ = some (.slice (some ⟨gh, 0, none⟩) n1 c1) ∧ w'.cell? ⟨gh, i3, none⟩ = some (.slice (some ⟨gn, on, none⟩) 2 cn))
            (first | assumption | exact hc0 | exact cells4 hb' (by assumption) | fail)
            (first | (go_at_call 27; refine (children_t h ok _ _ l2 (Pl.sdv h H1 [] x l0 j) wr.drew HN.out.1 KR.out.2.2.1.1).mono ?_; rintro r w1 ⟨v, rfl, hv', hb', hnew⟩; obtain ⟨gu2, ou2, cu2, rfl⟩ := hv'.form2 (Pl.hc_len h _ _)) | fail)
          have BW : Below wr.drew.heap.size wr w1 := (Below.refl _ _).drew.trans hb'
          have BK := KR.out.1.trans (KeepT.of_below BW)
          have BW2 : Below base w w1 := KR.out.2.1.trans (BW.mono (Nat.le_trans (Nat.le_trans HBG.out.1 (Nat.le_of_lt HBG.out.2)) KR.out.2.1.size))
          obtain ⟨av1, HGV, HSN⟩ := KR.out.2.2.2.2
          have KN : KeepT [] wr (w1.alloc (.cells #[.int .u64 (h2 : Int), .int .u64 (q2 : Int)] 70)) := (KeepT.of_below BW).alloc _
          have BN : Below base w (w1.alloc (.cells #[.int .u64 (h2 : Int), .int .u64 (q2 : Int)] 70)) := BW2.alloc (Nat.le_trans (Nat.le_trans HBG.out.1 (Nat.le_of_lt HBG.out.2)) BW2.size) _
          have HgrowVisit := Lib.hid (growVisit h2 q2 gu2 ou2 cu2 _ gv base _ av1 _ (hv'.below ((Below.refl _ _).alloc (Nat.le_refl _) _)) (Pl.hc_len h _ _) (HSN.keep KN (by simp) (by simp)) (KN.blk HGV (by simp)) (by simp [Pl.toldM]; have := HSL.out; omega) HBV.out)
          have nf := nf_fun 49 #[] #[.pointer (some ⟨gv, 0, none⟩)]
          clear hb' hnew hc0
          go_wp2_with fail
          refine (newNode_c _ _ _).mono ?_; rintro r w2 ⟨rfl, rfl⟩
          go_wp2_with fail
          refine HgrowVisit.out.mono ?_; rintro r w3 ⟨rfl, av3, HS3, HG3, HK3, HB3⟩
          go_wp2_with fail
          go_roundw
          case rel => exact ⟨j + 1, q2, i3, i2, h2, gu2, ou2, cu2, by omega, Lib.hid ⟨by rw [HQ2.out, HJ0.out.1, Nat.div_div_eq_div_mul, ← Nat.pow_succ], HI3.out, by rw [HH2.out, HJ0.out.2.2]; omega⟩, HI2, rfl, by go_num, by go_num, by go_num, by go_num, Lib.hid ⟨(KR.out.1.trans (KN.mono (by simp))).trans HK3, BN.trans HB3, by rw [HSD.out]; exact (hv'.below ((Below.refl _ _).alloc (Nat.le_refl _) (.cells #[.int .u64 (h2 : Int), .int .u64 (q2 : Int)] 70))).keep HK3 (by decide), by rw [HSD.out]; exact Pl.hc_len h _ _, av3, HG3, by
            have e1 : h2 = lo + j + 1 := by rw [HH2.out, HJ0.out.2.2]
            have e2 : q2 = x / 2 ^ (j + 1) := by rw [HQ2.out, HJ0.out.1, Nat.div_div_eq_div_mul, ← Nat.pow_succ]
            rw [Pl.toldM_succ, ← List.append_assoc, HSD.out, ← e1, ← e2]
            exact HS3⟩⟩
          case measure => simp [intOf]; have := HJ0.out.2.2; have := HH2.out; omega
      · obtain rfl : j = t := by omega
        have tt : ¬ (hh : Int) < (H : Int) := by have := HJ0.out.2.2; have := HHt.out; omega
        go_wp2_with fail
        have hi1 : i1 ≤ n1 := by have := HJ0.out.2.1; omega
        have RL := Lib.hid ((HB.out.keep KR.out.1 (by decide) (by decide)))
        have r1 := fun W => slice_head RL.out i1 (by rw [HN1.out]; exact hi1) W
        have RT := Lib.hid (RL.out.take i1 (by rw [HN1.out]; exact hi1))
        have HLT := Lib.hid (show (H1.take i1).length = i1 by simp; have := HN1.out; omega)
        have hi2 : i2 = 0 := by have := HJ1.out; have := HZS.out; have := HPS.out; omega
        have r2 : ∀ W, (Instr.slice 25 (.slice none 0 0) (some (.int .i64 (i2 : Int))) none none).run Tryf.prog W = .ok (.slice none 0 0) W := fun W => by
          rw [hi2]
          have := hashes_tail none 0 0 0 (Nat.le_refl _) W
          simpa using this
        clear hi2
        obtain ⟨av2, HGV, HSN⟩ := KR.out.2.2.2.2
        have S0 : wr.drew.cell? ⟨g, 3, none⟩ = some (.slice A1 n1 c1) := RB.out.1.cell 3
        refine wp_region_E (fun w' => w'.cell? ⟨g, 3, none⟩ = some (.slice A1 n1 c1)) [14, 15, 16] (by kernel_rfl) S0 (fun hHeld => ?_)
        refine wpAnyE_take 0 [14, 15, 16] (some 143) (v := .pointer (some ⟨g, 0, none⟩)) rfl rfl (by kernel_rfl) (by kernel_rfl) (by kernel_rfl) (by kernel_rfl) (by kernel_rfl) (by kernel_rfl) (fun _ _ _ h => h) (by rfl) hHeld ?_ ?_
        · intro W hS
          go_simp
        simp only [Act.put, List.setIfInBounds_toArray, List.set_cons_zero, List.set_cons_succ]
        refine wpAnyE_take 1 [14, 15, 16] (some 144) (v := .pointer (some ⟨g, 0, none⟩)) rfl rfl (by kernel_rfl) (by kernel_rfl) (by kernel_rfl) (by kernel_rfl) (by kernel_rfl) (by kernel_rfl) (fun _ _ _ h => h) (by rfl) hHeld ?_ ?_
        · intro W hS
          go_simp
        simp only [Act.put, List.setIfInBounds_toArray, List.set_cons_zero, List.set_cons_succ]
        refine wpAnyE_take 2 [14, 15, 16] (some 145) (v := .pointer (some ⟨g, 0, none⟩)) rfl rfl (by kernel_rfl) (by kernel_rfl) (by kernel_rfl) (by kernel_rfl) (by kernel_rfl) (by kernel_rfl) (fun _ _ _ h => h) (by rfl) hHeld ?_ ?_
        · intro W hS
          go_simp
        simp only [Act.put, List.setIfInBounds_toArray, List.set_cons_zero, List.set_cons_succ]
        refine wpAnyE_take 3 [14, 15, 16] (some 146) (v := .pointer (some ⟨g, 3, none⟩)) rfl rfl (by kernel_rfl) (by kernel_rfl) (by kernel_rfl) (by kernel_rfl) (by kernel_rfl) (by kernel_rfl) (fun _ _ _ h => h) (by rfl) hHeld ?_ ?_
        · intro W hS
          go_simp
        simp only [Act.put, List.setIfInBounds_toArray, List.set_cons_zero, List.set_cons_succ]
        refine wpAnyE_take 4 [14, 15, 16] (some 147) (v := .slice A1 n1 c1) rfl rfl (by kernel_rfl) (by kernel_rfl) (by kernel_rfl) (by kernel_rfl) (by kernel_rfl) (by kernel_rfl) (fun _ _ _ h => h) (by rfl) hHeld ?_ ?_
        · intro W hS
          go_simp
        simp only [Act.put, List.setIfInBounds_toArray, List.set_cons_zero, List.set_cons_succ]
        refine wpAnyE_take 5 [14, 15, 16] (some 148) (v := .int .i64 (i1 : Int)) rfl rfl (by kernel_rfl) (by kernel_rfl) (by kernel_rfl) (by kernel_rfl) (by kernel_rfl) (by kernel_rfl) (fun _ _ _ h => h) (by rfl) hHeld ?_ ?_
        · intro W hS
          go_simp
        simp only [Act.put, List.setIfInBounds_toArray, List.set_cons_zero, List.set_cons_succ]
        refine wpAnyE_take 6 [14, 15, 16] (some 149) (v := .slice A1 i1 c1) rfl rfl (by kernel_rfl) (by kernel_rfl) (by kernel_rfl) (by kernel_rfl) (by kernel_rfl) (by kernel_rfl) (fun _ _ _ h => h) (by rfl) hHeld ?_ ?_
        · intro W hS
          go_simp
        simp only [Act.put, List.setIfInBounds_toArray, List.set_cons_zero, List.set_cons_succ]
        refine wpAnyE_take 7 [14, 15, 16] (some 150) (v := .slice (some ⟨gu1, ou1, none⟩) 2 cu1) rfl rfl (by kernel_rfl) (by kernel_rfl) (by kernel_rfl) (by kernel_rfl) (by kernel_rfl) (by kernel_rfl) (fun _ _ _ h => h) (by rfl) hHeld ?_ ?_
        · intro W hS
          go_simp
        simp only [Act.put, List.setIfInBounds_toArray, List.set_cons_zero, List.set_cons_succ]
        refine wpAnyE_take 10 [14, 15, 16] (some 153) (v := .slice none 0 0) rfl rfl (by kernel_rfl) (by kernel_rfl) (by kernel_rfl) (by kernel_rfl) (by kernel_rfl) (by kernel_rfl) (fun _ _ _ h => h) (by rfl) hHeld ?_ ?_
        · intro W hS
          go_simp
        simp only [Act.put, List.setIfInBounds_toArray, List.set_cons_zero, List.set_cons_succ]
        refine wpAnyE_take 11 [14, 15, 16] (some 154) (v := .int .i64 (i2 : Int)) rfl rfl (by kernel_rfl) (by kernel_rfl) (by kernel_rfl) (by kernel_rfl) (by kernel_rfl) (by kernel_rfl) (fun _ _ _ h => h) (by rfl) hHeld ?_ ?_
        · intro W hS
          go_simp
        simp only [Act.put, List.setIfInBounds_toArray, List.set_cons_zero, List.set_cons_succ]
        refine wpAnyE_take 12 [14, 15, 16] (some 155) (v := .slice none 0 0) rfl rfl (by kernel_rfl) (by kernel_rfl) (by kernel_rfl) (by kernel_rfl) (by kernel_rfl) (by kernel_rfl) (fun _ _ _ h => h) (by rfl) hHeld ?_ ?_
        · intro W hS
          go_simp
        simp only [Act.put, List.setIfInBounds_toArray, List.set_cons_zero, List.set_cons_succ]
        refine wpAnyE_one 8 (by kernel_rfl) rfl (fun K hK => ?_)
        go_simp
        have BA : Below wr.heap.size wr (wr.alloc (.cells #[.slice (some ⟨gu1, ou1, none⟩) 2 cu1] 28)).drew := ((Below.refl _ _).alloc (Nat.le_refl _) _).drew
        have KA0 := KeepT.of_below (ts := []) BA
        have BA0 : Below base w (wr.alloc (.cells #[.slice (some ⟨gu1, ou1, none⟩) 2 cu1] 28)).drew := KR.out.2.1.trans (BA.mono (Nat.le_trans (Nat.le_trans HBG.out.1 (Nat.le_of_lt HBG.out.2)) KR.out.2.1.size))
        have HG1 := KA0.blk RB.out.1 (by simp)
        have hHeld := HG1.cell 3
        refine hK.out _ _ (fun _ => hHeld) ?_
        clear hK K
        refine wpAnyE_one 9 (by kernel_rfl) rfl (fun K hK => ?_)
        refine step_append_bt rfl 152 rfl (.tmp 149) (.tmp 151) rfl base A1 i1 c1 (H1.take i1) (RT.out.keep KA0 (by simp) (by simp)) HLT.out rfl wr.heap.size (.slice (some ⟨gu1, ou1, none⟩) 2 cu1) (Pl.sdv h H1 [] x l0 j) rfl (by simp) (KR.out.2.2.1.below BA) KR.out.2.2.2.1 (by omega) (by have := KR.out.2.1.size; have := BA.size; have := HBG.out; omega) ?_
        intro A2 c2 w2 hB2 hK2 hg2 hb2
        have HG2 := hK2.blk HG1 (by decide)
        refine hK.out _ _ (fun _ => HG2.cell 3) ?_
        clear hK K
        simp only [Act.put, List.setIfInBounds_toArray, List.set_cons_zero, List.set_cons_succ]
        refine wpAnyE_one 13 (by kernel_rfl) rfl (fun K hK => ?_)
        obtain ⟨us3, hl3, ho3, hb3⟩ := id hB2
        obtain ⟨i0, hi0, _, _, _⟩ := info_parts bytesInfo
        refine step_append_nil rfl 156 rfl (.tmp 152) (.tmp 155) 25 rfl base 28 i0 1 Tryf.underlying25 hi0 (.slice A2 (i1 + 1) c2) _ us3 ho3 rfl 0 rfl ?_
        have HMG : Pl.merged h H1 [] x l0 j = H1.take i1 ++ [Pl.sdv h H1 [] x l0 j] := by
          unfold Pl.merged
          rw [HN1.out, ← HJ0.out.2.1]
          simp
        refine hK.out _ _ (fun _ => HG2.cell 3) ?_
        clear hK K
        simp only [Act.put, List.setIfInBounds_toArray, List.set_cons_zero, List.set_cons_succ]
        refine wpAnyE_one 14 (by kernel_rfl) rfl (fun K hK => ?_)
        go_simp
        refine hK.out _ _ (fun h => absurd (by simp) h) ?_
        clear hK K
        refine wpAnyE_one 15 (by kernel_rfl) rfl (fun K hK => ?_)
        go_simp
        refine hK.out _ _ (fun h => absurd (by simp) h) ?_
        clear hK K
        have hc3 : w2.cell? ⟨g, 3, none⟩ = some (.slice A1 n1 c1) := HG2.cell 3
        have hf3 := HG2.frozen 3
        refine wpAnyE_one 16 (by kernel_rfl) rfl (fun K hK => ?_)
        go_simp
        refine hK.out _ _ (fun h => absurd (by simp) h) ?_
        clear hK K
        refine wpAnyE_done (by kernel_rfl) ?_ _
        have HG5 := HG2.set_ 3 (.slice A2 (i1 + 1) c2)
        have hc5 : (w2.setCell ⟨g, 3, none⟩ (.slice A2 (i1 + 1) c2)).cell? ⟨g, 2, none⟩ = some (.int .u64 (m : Int)) := HG5.cell 2
        have hf5 := HG5.frozen 2
        have KX : KeepT [28] wr w2 := KA0.mono (by decide) |>.trans hK2
        have KY : KeepT [82] w2 ((w2.setCell ⟨g, 3, none⟩ (.slice A2 (i1 + 1) c2)).setCell ⟨g, 2, none⟩ (.int .u64 (e : Int))) := (keep_set HG2 (.slice A2 (i1 + 1) c2)).trans (keep_set HG5 (.int .u64 (e : Int)))
        have KK : KeepT [82, 28, 47, 29] w ((w2.setCell ⟨g, 3, none⟩ (.slice A2 (i1 + 1) c2)).setCell ⟨g, 2, none⟩ (.int .u64 (e : Int))) := ((KR.out.1.mono (by decide)).trans (KX.mono (by decide))).trans (KY.mono (by decide))
        have BB : Below base w ((w2.setCell ⟨g, 3, none⟩ (.slice A2 (i1 + 1) c2)).setCell ⟨g, 2, none⟩ (.int .u64 (e : Int))) := ((BA0.trans hb2).setCell HBG.out.1 _).setCell HBG.out.1 _
        have HFIN : RangeB ((w2.setCell ⟨g, 3, none⟩ (.slice A2 (i1 + 1) c2)).setCell ⟨g, 2, none⟩ (.int .u64 (e : Int))) g gf h b e (.slice A2 (i1 + 1) c2) := ⟨HG5.set_ 2 (.int .u64 (e : Int)), KK.blk HR.out.2 (by decide)⟩
        have HFB := hB2.keep KY (by decide) (by decide)
        rw [← HMG] at HFB
        have HGV2 := KY.blk (KX.blk HGV (by decide)) (by decide)
        have HSN2 := (HSN.keep KX (by decide) (by decide)).keep KY (by decide) (by decide)
        go_wp2
        go_ret
        exact ⟨rfl, KK, BB, _, HFIN, HFB, _, HGV2, HSN2⟩
end Go.Proofs.YtpdmmmcelkinjaaFmt
/- compact.Range.Append with the visitor of impl.grow. -/
namespace Go.Proofs.YtpdmmmcelkinjaaFmt
open Go.ChangeShapes Go.WideShapes Go.ChangeAt Go.RowKit
set_option maxRecDepth 20000
set_option maxHeartbeats 2000000 in
theorem append_G (h : Pl.HF) (ok : h.ok) (f : Nat → List Nat) (g gf base b m : Nat) (hv : Value) (gu ou cu : Nat) (gv : Nat) (av : Value) (S : List SeenN) (w : World) (hb : b ≤ m) (he : m + 1 < 9223372036854775808) (hT : Tab w) (htb : 0 < base) (hR : RangeB w g gf h b m hv) (hB : BuiltT w base hv (Pl.ph h f b m)) (hbg : base ≤ g) (hs : BytesT w (.slice (some ⟨gu, ou, none⟩) 2 cu) (f m)) (hl : (f m).length = 2) (hgv : Blk w gv 29 #[av]) (hS : SeenB w base av S) (hbgv : base ≤ gv) (hSn : S.length ≤ 800000) :
    Calls Tryf.prog 36 #[.pointer (some ⟨g, 0, none⟩), .slice (some ⟨gu, ou, none⟩) 2 cu, .func (.func 49) #[] #[.pointer (some ⟨gv, 0, none⟩)]] w fun r w' => r = .returned .nilIface ∧ KeepT [82, 28, 47, 29] w w' ∧ Below base w w' ∧ ∃ hv', RangeB w' g gf h b (m + 1) hv' ∧ BuiltT w' base hv' (Pl.ph h f b (m + 1)) ∧ ∃ av', Blk w' gv 29 #[av'] ∧ SeenB w' base av' (S ++ Pl.grownS h f b m) := by
  obtain ⟨j1, j2, j3, j4, j5⟩ := Pl.leaf_law h f hb (by omega)
  have hn : (Pl.ph h f b m).length ≤ 1000 := by rw [Pl.ph_length]; have := Pl.pieces_len b m (by omega); omega
  have cg2 : w.cell? ⟨g, 2, none⟩ = some (.int .u64 (m : Int)) := hR.1.cell 2
  have hlt : g < w.heap.size := hR.1.lt
  have HRR := Lib.hid hR
  have hbw : base ≤ w.heap.size := by omega
  have KN : KeepT [] w (w.alloc (.cells #[.int .u64 0, .int .u64 (m : Int)] 70)) := (KeepT.refl _ _).alloc _
  have BN : Below base w (w.alloc (.cells #[.int .u64 0, .int .u64 (m : Int)] 70)) := (Below.refl _ _).alloc hbw _
  have HVIS := Lib.hid (growVisit 0 m gu ou cu (f m) gv base S av (w.alloc (.cells #[.int .u64 0, .int .u64 (m : Int)] 70)) (hs.keep KN (by simp)) hl (hS.keep KN (by simp) (by simp)) (KN.blk hgv (by simp)) (by omega) hbgv)
  have HAPP := Lib.hid (fun (W : World) (av1 : Value) (hK : KeepT [47, 29] w W) (hBl : Below base w W) (hg1 : Blk W gv 29 #[av1]) (hS1 : SeenB W base av1 (S ++ [(0, m, f m)])) => appG h ok g gf base b m (m + 1) hv (Pl.ph h f b m) gu ou cu (f m) gv av1 (S ++ [(0, m, f m)]) W hb (by omega) (by omega) (hT.under hBl htb) (hR.keep hK (by decide) (by decide)) (hB.keep hK (by decide) (by decide)) hbg (hs.keep hK (by decide)) hl hn hg1 hS1 hbgv (by simp; omega) j2 j3 j4)
  rw [j1] at HAPP
  have w1 : IntKind.u64.wrap ((m : Int) + 1) = ((m + 1 : Nat) : Int) := by rw [IntKind.wrap_u64]; omega
  have HM1 : Hid (((m + 1 : Nat) : Int) = ((m + 1 : Nat) : Int)) := Lib.hid rfl
  generalize m + 1 = m1 at *
  have nf := nf_fun 49 #[] #[.pointer (some ⟨gv, 0, none⟩)]
  have J5 := Lib.hid j5
  clear hR hB hs hT hgv hS j1 j2 j3 j4 j5 hn
  go_enter Tryf.func36, Tryf.ntmps36
  go_wp2_with fail
  refine (newNode_c _ _ _).mono ?_; rintro r w2 ⟨rfl, rfl⟩
  go_wp2_with fail
  refine HVIS.out.mono ?_; rintro r w3 ⟨rfl, av3, HS3, HG3, HK3, HB3⟩
  have K3 := (KN.mono (by simp)).trans HK3
  have B3 := BN.trans HB3
  have cg3 : w3.cell? ⟨g, 2, none⟩ = some (.int .u64 (m : Int)) := (HRR.out.keep K3 (by decide) (by decide)).1.cell 2
  go_wp2_with fail
  refine (HAPP.out w3 av3 K3 B3 HG3 HS3).mono ?_; rintro r w4 ⟨rfl, k1, k2, hv4, k3, k4, av4, k5, k6⟩
  go_wp2_with fail
  go_ret
  exact ⟨rfl, (K3.mono (by decide)).trans k1, B3.trans k2, hv4, k3, k4, av4, k5, by rw [← J5.out, ← List.append_assoc]; exact k6⟩
end Go.Proofs.YtpdmmmcelkinjaaFmt
/- impl.grow. -/
namespace Go.Proofs.YtpdmmmcelkinjaaFmt
open Go.ChangeShapes Go.WideShapes Go.ChangeAt Go.RowKit
set_option maxRecDepth 20000
theorem empty_c (gf b : Nat) (w : World) : Calls Tryf.prog 35 #[.pointer (some ⟨gf, 0, none⟩), .int .u64 (b : Int)] w fun r w' => r = .returned (.pointer (some ⟨w.heap.size, 0, none⟩)) ∧ w.alloc (.cells #[.pointer (some ⟨gf, 0, none⟩), .int .u64 (b : Int), .int .u64 (b : Int), .slice none 0 0] 82) = w' := by
  go_enter Tryf.func35, Tryf.ntmps35
  go_wp2
  go_ret
  exact ⟨rfl, rfl⟩
/-- The leaves of a range from b on. -/
def Pl.lv (L : List (List Nat)) (b i : Nat) : List Nat := Pl.atL L (i - b)
theorem ph_empty (h : Pl.HF) (f : Nat → List Nat) (b : Nat) : Pl.ph h f b (b + 0) = [] := by
  unfold Pl.ph Pl.pieces
  rw [Nat.add_zero, Pl.pcs_nil _ _ _ _ (Nat.le_refl _)]
  rfl
/-- What stands ready as impl.grow begins to append. -/
theorem grow_start (w : World) (h : Pl.HF) (b : Nat) (o : Obj) :
    Below w.heap.size w (((((w.alloc o).alloc (.cells #[hashF h] 58)).alloc (.cells #[.pointer (some ⟨w.heap.size + 1, 0, none⟩), .int .u64 (b : Int), .int .u64 (b : Int), .slice none 0 0] 82)).alloc (.cells #[] 47)).alloc (.cells #[.slice (some ⟨w.heap.size + 1 + 1 + 1, 0, none⟩) 0 0] 29)) ∧
    RangeB (((((w.alloc o).alloc (.cells #[hashF h] 58)).alloc (.cells #[.pointer (some ⟨w.heap.size + 1, 0, none⟩), .int .u64 (b : Int), .int .u64 (b : Int), .slice none 0 0] 82)).alloc (.cells #[] 47)).alloc (.cells #[.slice (some ⟨w.heap.size + 1 + 1 + 1, 0, none⟩) 0 0] 29)) (w.heap.size + 1 + 1) (w.heap.size + 1) h b b (.slice none 0 0) ∧
    Blk (((((w.alloc o).alloc (.cells #[hashF h] 58)).alloc (.cells #[.pointer (some ⟨w.heap.size + 1, 0, none⟩), .int .u64 (b : Int), .int .u64 (b : Int), .slice none 0 0] 82)).alloc (.cells #[] 47)).alloc (.cells #[.slice (some ⟨w.heap.size + 1 + 1 + 1, 0, none⟩) 0 0] 29)) (w.heap.size + 1 + 1 + 1 + 1) 29 #[.slice (some ⟨w.heap.size + 1 + 1 + 1, 0, none⟩) 0 0] ∧
    SeenB (((((w.alloc o).alloc (.cells #[hashF h] 58)).alloc (.cells #[.pointer (some ⟨w.heap.size + 1, 0, none⟩), .int .u64 (b : Int), .int .u64 (b : Int), .slice none 0 0] 82)).alloc (.cells #[] 47)).alloc (.cells #[.slice (some ⟨w.heap.size + 1 + 1 + 1, 0, none⟩) 0 0] 29)) w.heap.size (.slice (some ⟨w.heap.size + 1 + 1 + 1, 0, none⟩) 0 0) [] := by
  have s1 : (w.alloc o).heap.size = w.heap.size + 1 := by simp
  have b1 := (Below.refl w.heap.size w).alloc (Nat.le_refl _) o
  generalize w.alloc o = w1 at *
  have k2 := Blk.new' w1 58 #[hashF h] s1.symm
  have s2 : (w1.alloc (.cells #[hashF h] 58)).heap.size = w.heap.size + 1 + 1 := by simp [s1]
  have b2 := b1.alloc b1.size (.cells #[hashF h] 58)
  generalize w1.alloc (.cells #[hashF h] 58) = w2 at *
  have k3 := Blk.new' w2 82 #[.pointer (some ⟨w.heap.size + 1, 0, none⟩), .int .u64 (b : Int), .int .u64 (b : Int), .slice none 0 0] s2.symm
  have k2' := k2.alloc (.cells #[.pointer (some ⟨w.heap.size + 1, 0, none⟩), .int .u64 (b : Int), .int .u64 (b : Int), .slice none 0 0] 82)
  have s3 : (w2.alloc (.cells #[.pointer (some ⟨w.heap.size + 1, 0, none⟩), .int .u64 (b : Int), .int .u64 (b : Int), .slice none 0 0] 82)).heap.size = w.heap.size + 1 + 1 + 1 := by simp [s2]
  have b3 := b2.alloc b2.size (.cells #[.pointer (some ⟨w.heap.size + 1, 0, none⟩), .int .u64 (b : Int), .int .u64 (b : Int), .slice none 0 0] 82)
  generalize w2.alloc (.cells #[.pointer (some ⟨w.heap.size + 1, 0, none⟩), .int .u64 (b : Int), .int .u64 (b : Int), .slice none 0 0] 82) = w3 at *
  have o4 := World.ownsRow_lit (base := w.heap.size) (e := 47) (size := 3) w3 #[] 0 (by omega) (by unfold maxLen; omega) rfl
  rw [s3] at o4
  have s4 : (w3.alloc (.cells #[] 47)).heap.size = w.heap.size + 1 + 1 + 1 + 1 := by simp [s3]
  have b4 := b3.alloc b3.size (.cells #[] 47)
  have k5 := Blk.new' (w3.alloc (.cells #[] 47)) 29 #[.slice (some ⟨w.heap.size + 1 + 1 + 1, 0, none⟩) 0 0] s4.symm
  exact ⟨b4.alloc b4.size _, ⟨(k3.alloc _).alloc _, (k2'.alloc _).alloc _⟩, k5, ⟨[], rfl, o4.alloc _, fun k u s hu => by simp at hu⟩⟩
set_option maxHeartbeats 2000000 in
theorem grow_c (h : Pl.HF) (ok : h.ok) (b : Nat) (v : Value) (L : List (List Nat)) (w : World) (hv : HashesR w v L) (h2 : ∀ x ∈ L, x.length = 2) (hl : L.length ≤ 1000) (hb : b + L.length < 4611686018427387904) (hT : Tab w) :
    Calls Tryf.prog 33 #[hashV h, .int .u64 (b : Int), v] w fun r w' => ∃ g gf hv' av, r = .returned (.tuple #[.pointer (some ⟨g, 0, none⟩), av, .bool true]) ∧ RangeB w' g gf h b (b + L.length) hv' ∧ BuiltT w' w.heap.size hv' (Pl.ph h (Pl.lv L b) b (b + L.length)) ∧ SeenB w' w.heap.size av (Pl.grownL h (Pl.lv L b) b L.length) ∧ w.heap.size ≤ g ∧ Below w.heap.size w w' := by
  have htb : 0 < w.heap.size := World.block_lt_of_cell? w _ (hT 0 (by decide))
  obtain ⟨A, cap, rfl, hcap, hy, hat⟩ := hv
  have HT := Lib.hid hT
  have HY := Lib.hid hy
  have H2 := Lib.hid h2
  clear hy h2 hT
  have HOK := Lib.hid ok
  obtain ⟨j0, hj, hy0, hy1, hy2⟩ := info_parts u8Info
  have HST := Lib.hid (grow_start w h b (.cells #[.int .u32 (h.A : Int), .int .u32 (h.B : Int), .int .u32 (h.C : Int)] 24))
  have HTB := Lib.hid htb
  have HBL := Lib.hid hb
  clear htb hb ok
  obtain ⟨Ah, Bh, Ch⟩ := h
  unfold hashV
  simp only [] at HST ⊢
  go_enter Tryf.func33, Tryf.ntmps33
  go_wp2_with fail
  refine (empty_c _ _ _).mono ?_; rintro r w1 ⟨rfl, rfl⟩
  go_wp2_with fail
  generalize hh : (⟨Ah, Bh, Ch⟩ : Pl.HF) = h at HOK HST ⊢
  go_loopw [13, 14, 23] (fun _ _ kv wr => ∃ k : Nat, k ≤ L.length ∧ kv = .int .i64 k ∧ Hid (∃ hv av, Below w.heap.size w wr ∧ RangeB wr (w.heap.size + 1 + 1) (w.heap.size + 1) h b (b + k) hv ∧ BuiltT wr w.heap.size hv (Pl.ph h (Pl.lv L b) b (b + k)) ∧ Blk wr (w.heap.size + 1 + 1 + 1 + 1) 29 #[av] ∧ SeenB wr w.heap.size av (Pl.grownL h (Pl.lv L b) b k))) (fun _ _ kv _ => L.length - (intOf kv).toNat)
  case atStart =>
    subst hh
    obtain ⟨t1, t2, t3, t4⟩ := HST.out
    exact ⟨0, Nat.zero_le _, rfl, Lib.hid ⟨_, _, t1, t2, by
      rw [ph_empty]
      exact BuiltT.nil _ _, t3, t4⟩⟩
  case round =>
    obtain ⟨k, hk, rfl, KR⟩ := hrel
    by_cases hkl : k < L.length
    · obtain ⟨g, o, rfl, hc⟩ := hat (by omega)
      obtain ⟨u, hu, hbr⟩ := hc k hkl
      have hl2 := H2.out L[k] (List.getElem_mem hkl)
      have HLV : Hid (Pl.lv L b (b + k) = L[k]) := Lib.hid (by unfold Pl.lv Pl.atL; rw [Nat.add_sub_cancel_left, List.getD_eq_getElem?_getD, List.getElem?_eq_getElem hkl]; rfl)
      have HYL := Lib.hid (HY.out L[k] (List.getElem_mem hkl))
      obtain ⟨hvr, avr, hB, hRr, hBr, hGr, hSr⟩ := KR.out
      have hu' := (hB.cell (World.block_lt_of_cell? w _ hu)).trans hu
      have hbr' := hbr.below hB
      generalize L[k] = l at *
      obtain ⟨A2, n2, c2, rfl⟩ := hbr.form
      obtain ⟨hn2, hnews⟩ := BytesR.news hbr'
      rw [hl2] at hn2
      subst hn2
      have Hnews := Lib.hid hnews
      have HL2 := Lib.hid hl2
      have hk1 : (k : Int) < (L.length : Int) := by omega
      have hk0 : (0 : Int) ≤ (k : Int) := by omega
      have HBk := Lib.hid hB
      have HRk := Lib.hid hRr
      have HHk := Lib.hid hBr
      have HGk := Lib.hid hGr
      have HSk := Lib.hid hSr
      have HLc := Lib.hid hat
      clear hc hbr hu hnews hbr' hB hRr hBr hGr hSr hat hl2
      go_wp2_with (first
        | (at_builtin
           refine wpList_append_list rfl (.tmp 28) (.tmp 29) 28 rfl wr.heap.size 5 j0 (.int .u8 0) 1 1 Tryf.underlying28 hj hy0 hy1 hy2 rfl (by decide) _ 0 [] rfl (World.ownsRow_lit _ _ 0 (Nat.le_refl _) (by unfold maxLen; omega) rfl) A2 2 c2 (u8Cells l) rfl (by simp [u8Cells, HL2.out]) (fun h => by obtain ⟨ad, e, h⟩ := Hnews.out h; exact ⟨ad, e, fun j u hu => by rw [← h j u hu]; exact ((Below.refl wr.heap.size wr).alloc (Nat.le_refl _) _).cell (World.block_lt_of_cell? wr _ (h j u hu))⟩) (u8_one l) (by unfold maxLen; omega) (by omega) (by simp) ?_
           intro v1 w1 hown1 hg1 _
           obtain ⟨A1, c1, rfl, _⟩ := own_slice hown1
           have hB1 : Below wr.heap.size wr w1 := ((Below.refl wr.heap.size wr).alloc (Nat.le_refl _) _).grown hg1 (by simp) (fun j hj => by have hj' : some wr.heap.size = some j := hj; injection hj' with hj'; omega)
           have hown2 : w1.ownsRow wr.heap.size 5 1 (.slice A1 2 c1) l.length (u8Cells l) := by rw [HL2.out]; simpa using hown1
           have BT := BytesT.of_own hown2 HYL.out
           obtain ⟨gu, ou, cu, eU⟩ := BT.form2 HL2.out
           injection eU with eU1 eU2 eU3
           clear hown1 hown2 hg1
           subst eU1 eU3)
        | fail)
      have hK1 := KeepT.of_below (ts := []) hB1
      have hB2 : Below w.heap.size w w1 := HBk.out.trans (hB1.mono HBk.out.size)
      have hbk : b + k + 1 < 4611686018427387904 := by have := HBL.out; omega
      rw [← HLV.out] at BT HL2
      refine (append_G h HOK.out (Pl.lv L b) (w.heap.size + 1 + 1) (w.heap.size + 1) w.heap.size b (b + k) hvr gu ou c1 (w.heap.size + 1 + 1 + 1 + 1) avr (Pl.grownL h (Pl.lv L b) b k) w1 (Nat.le_add_right _ _) (by omega) (HT.out.below hB2) HTB.out (HRk.out.keep hK1 (by simp) (by simp)) (HHk.out.keep hK1 (by simp) (by simp)) (by omega) BT HL2.out (hK1.blk HGk.out (by simp)) (HSk.out.keep hK1 (by simp) (by simp)) (by omega) (by have := Pl.grownL_length h (Pl.lv L b) b k (by omega); omega)).mono ?_
      rintro r w4 ⟨rfl, k1, k2, hv4, k3, k4, av4, k5, k6⟩
      go_wp2_with fail
      go_roundw
      case rel => exact ⟨k + 1, by omega, by go_num, Lib.hid ⟨hv4, av4, hB2.trans k2, k3, k4, k5, k6⟩⟩
      case measure => simp [intOf] <;> omega
    · obtain rfl : k = L.length := by omega
      have hk1 : ¬ (L.length : Int) < (L.length : Int) := by omega
      obtain ⟨hvr, avr, hB, hRr, hBr, hGr, hSr⟩ := KR.out
      clear hat
      have hc0 : wr.cell? ⟨w.heap.size + 1 + 1 + 1 + 1, 0, none⟩ = some avr := hGr.cell 0
      go_wp2_with fail
      go_region_held3 (fun w' => w'.cell? ⟨w.heap.size + 1 + 1 + 1 + 1, 0, none⟩ = some avr) (first | assumption | exact hc0 | fail) (fail)
      go_wp2_with fail
      go_ret3
      subst hh
      have KD := (KeepT.refl [] wr).drew
      exact ⟨_, _, hvr, avr, rfl, hRr.keep KD (by simp) (by simp), hBr.keep KD (by simp) (by simp), hSr.keep KD (by simp) (by simp), by omega, hB.drew⟩
end Go.Proofs.YtpdmmmcelkinjaaFmt
