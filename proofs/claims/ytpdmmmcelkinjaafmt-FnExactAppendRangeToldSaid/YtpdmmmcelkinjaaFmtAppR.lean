/- compact.Range.AppendRange with the visitor of impl.AppendRange. -/
import Derived.Test.YtpdmmmcelkinjaaFmtAppA
import Derived.Test.YtpdmmmcelkinjaaFmtErr
import Derived.Test.YtpdmmmcelkinjaaFmtAppG
import Derived.Test.YtpdmmmcelkinjaaFmtToldR
import Derived.Laws.EntriesVeiled
import Derived.Lib.Builder
import Derived.StillTailTactics
namespace Go.Proofs.YtpdmmmcelkinjaaFmt
open Go.ChangeShapes Go.WideShapes Go.ChangeAt Go.RowKit Go.Extern.Stop Go.Stop Go.Extern
set_option maxRecDepth 20000
theorem BuiltT.whole {w : World} {base : Nat} {v : Value} {H : List (List Nat)} (h : BuiltT w base v H) (h0 : 0 < H.length) : ∃ g c gu ou cu, v = .slice (some ⟨g, 0, none⟩) H.length c ∧ H.length ≤ c ∧ c ≤ 9223372036854775807 ∧ base ≤ g ∧ SliceT w v g 0 H ∧ w.cell? ⟨g, 0, none⟩ = some (.slice (some ⟨gu, ou, none⟩) 2 cu) ∧ BytesT w (.slice (some ⟨gu, ou, none⟩) 2 cu) H[0] := by
  obtain ⟨g, c, gu, ou, cu, rfl, hc, hcell, hbt⟩ := h.at 0 h0
  obtain ⟨us, hl, ho, hb⟩ := h
  have hat := fun k hk => ho.cellAt k hk
  rcases ho.2 with ⟨e, _⟩ | ⟨g', cap, cur, e, hbg, hg, _, hcm, _⟩
  · cases e
  · injection e with e1 e2 e3
    injection e1 with e1
    injection e1 with e1
    subst e1 e3
    refine ⟨g, c, gu, ou, cu, rfl, hc, hcm, hbg, ⟨⟨c, rfl, hc⟩, ⟨cur, _, hg⟩, us, hl, fun k u hu => ?_, hb⟩, hcell, hbt⟩
    have hk : k < us.length := by
      rcases Nat.lt_or_ge k us.length with h | h
      · exact h
      · rw [List.getElem?_eq_none h] at hu; cases hu
    rw [Nat.zero_add, hat k (by omega), hu]
theorem fmtDisjoint : Fmt2 ⟨#[114, 97, 110, 103, 101, 115, 32, 97, 114, 101, 32, 100, 105, 115, 106, 111, 105, 110, 116, 58, 32, 111, 116, 104, 101, 114, 46, 98, 101, 103, 105, 110, 61, 37, 100, 44, 32, 119, 97, 110, 116, 32, 37, 100]⟩ := ⟨by kernel_rfl, fun w => by kernel_rfl⟩
theorem nf_fac (a : Addr) (w : World) : (binOp BinOp.neq 78 (.pointer (some a)) (.pointer (some a))).run Tryf.prog w = .ok (.bool false) w := by
  obtain ⟨j, hj⟩ : ∃ j, Tryf.prog.info? 58 = some j := ⟨_, rfl⟩
  exact Lib.run_neq_ptr_same w a Tryf.underlying78 hj
/-- A range elsewhere is an error. -/
theorem appR_no (F : Interp) (h : Pl.HF) (ga gb gf b m b2 e : Nat) (hva hvb vis : Value) (w : World) (hF : F.answers w.tape) (hne : b2 ≠ m) (hRa : RangeB w ga gf h b m hva) (hRb : RangeB w gb gf h b2 e hvb) :
    Calls Tryf.prog 37 #[.pointer (some ⟨ga, 0, none⟩), .pointer (some ⟨gb, 0, none⟩), vis] w (RetErr w) := by
  have a0 := hRa.1.cell 0
  have a2 := hRa.1.cell 2
  have b0 := hRb.1.cell 0
  have b1 := hRb.1.cell 1
  have t2 : ¬ (b2 : Int) = (m : Int) := by omega
  have HF := Lib.hid hF
  clear hRa hRb hF hne
  have nfa := nf_fac ⟨gf, 0, none⟩
  go_enter Tryf.func37, Tryf.ntmps37
  go_wp2_with fail
  go_region_held3 (fun w' => w'.cell? ⟨gb, 0, none⟩ = some (.pointer (some ⟨gf, 0, none⟩)) ∧ w'.cell? ⟨ga, 0, none⟩ = some (.pointer (some ⟨gf, 0, none⟩))) (first | assumption | exact ⟨b0, a0⟩ | fail) (fail)
  go_wp2_with fail
  go_region_held3 (fun w' => w'.cell? ⟨gb, 1, none⟩ = some (.int .u64 (b2 : Int)) ∧ w'.cell? ⟨ga, 2, none⟩ = some (.int .u64 (m : Int))) (first | assumption | exact ⟨b1, a2⟩ | fail) (fail)
  go_wp2_with fail
  have B1 : Below w.heap.size w (w.drew.drew.alloc (.cells #[.iface 27 (.int .u64 (b2 : Int)), .iface 27 (.int .u64 (m : Int))] 20)) := (Below.refl w.heap.size w).drew.drew.alloc (Nat.le_refl _) _
  have KI := Blk.new' w.drew.drew 20 #[.iface 27 (.int .u64 (b2 : Int)), .iface 27 (.int .u64 (m : Int))] (g := w.heap.size) rfl
  refine (errorf_uu F _ fmtDisjoint (b2 : Int) (m : Int) w.heap.size _ (ans_below HF.out B1) (KI.cell 0) (KI.cell 1)).mono ?_
  rintro r w1 ⟨⟨gE, rfl⟩, hb⟩
  go_wp2_with fail
  go_ret
  exact ⟨⟨_, rfl⟩, B1.trans (hb.mono B1.size)⟩
/-- An empty range changes nothing. -/
theorem appR_empty (h : Pl.HF) (ga gb gf b m : Nat) (hva vis : Value) (A : Option Addr) (c : Nat) (w : World) (hRa : RangeB w ga gf h b m hva) (hRb : RangeB w gb gf h m m (.slice A 0 c)) :
    Calls Tryf.prog 37 #[.pointer (some ⟨ga, 0, none⟩), .pointer (some ⟨gb, 0, none⟩), vis] w fun r w' => r = .returned .nilIface ∧ KeepT [] w w' ∧ Below w.heap.size w w' := by
  have a0 := hRa.1.cell 0
  have a2 := hRa.1.cell 2
  have b0 := hRb.1.cell 0
  have b1 := hRb.1.cell 1
  have b3 := hRb.1.cell 3
  clear hRa hRb
  have nfa := nf_fac ⟨gf, 0, none⟩
  go_enter Tryf.func37, Tryf.ntmps37
  go_wp2_with fail
  go_region_held3 (fun w' => w'.cell? ⟨gb, 0, none⟩ = some (.pointer (some ⟨gf, 0, none⟩)) ∧ w'.cell? ⟨ga, 0, none⟩ = some (.pointer (some ⟨gf, 0, none⟩))) (first | assumption | exact ⟨b0, a0⟩ | fail) (fail)
  go_wp2_with fail
  go_region_held3 (fun w' => w'.cell? ⟨gb, 1, none⟩ = some (.int .u64 (m : Int)) ∧ w'.cell? ⟨ga, 2, none⟩ = some (.int .u64 (m : Int))) (first | assumption | exact ⟨b1, a2⟩ | fail) (fail)
  go_wp2_with fail
  go_ret
  exact ⟨rfl, (KeepT.refl _ _).drew.drew, (Below.refl _ _).drew.drew⟩
set_option maxHeartbeats 4000000 in
/-- One range behind the other: one range. -/
theorem appR_c (h : Pl.HF) (ok : h.ok) (f : Nat → List Nat) (ga gb gf base base2 b m e gv : Nat) (hva hvb av : Value) (w : World) (hb : b ≤ m) (hm : m ≤ e) (he : e < 9223372036854775808) (hT : Tab w) (hRa : RangeB w ga gf h b m hva) (hBa : BuiltT w base hva (Pl.ph h f b m)) (hbg : base ≤ ga) (hRb : RangeB w gb gf h m e hvb) (hBb : BuiltT w base2 hvb (Pl.ph h f m e)) (hne : ∀ g, hvb.ownBlock = some g → some g ≠ hva.ownBlock) (hgv : Blk w gv 29 #[av]) (hS : SeenB w base av []) (hbgv : base ≤ gv) :
    Calls Tryf.prog 37 #[.pointer (some ⟨ga, 0, none⟩), .pointer (some ⟨gb, 0, none⟩), .func (.func 38) #[] #[.pointer (some ⟨gv, 0, none⟩)]] w fun r w' => r = .returned .nilIface ∧ Below base w w' ∧ ∃ hv', RangeB w' ga gf h b e hv' ∧ BuiltT w' base hv' (Pl.ph h f b e) ∧ ∃ av', Blk w' gv 29 #[av'] ∧ SeenB w' base av' (Pl.toldR h f b m e) := by
  have hbw : base ≤ w.heap.size := by have := hRa.1.lt; omega
  rcases Nat.lt_or_ge m e with hlt | hge
  · obtain ⟨s0, H2, j0, j1, j2, j3, j4, j5⟩ := Pl.join_law h f hb hlt (by omega)
    rw [← Pl.toldR_lt h f hlt] at j5
    have hn : (Pl.ph h f b m).length ≤ 1000 := by rw [Pl.ph_length]; have := Pl.pieces_len b m (by omega); omega
    have hn2 : (Pl.ph h f m e).length ≤ 1000 := by rw [Pl.ph_length]; have := Pl.pieces_len m e (by omega); omega
    rw [j0] at hBb hn2
    obtain ⟨g2, c2, gu, ou, cu, rfl, hc2, hc3, hg2, hsl, hcu, hbu0⟩ := hBb.whole (by simp)
    have hl0 : s0.length = 2 := hBb.two s0 (by simp)
    have hbu : BytesT w (.slice (some ⟨gu, ou, none⟩) 2 cu) s0 := hbu0
    clear hbu0
    obtain ⟨v', o', hrun, hsl1⟩ := slice_tail hsl 1 (by simp)
    rw [List.drop_succ_cons, List.drop_zero] at hsl1
    have HNE := hne g2 rfl
    have a0 := hRa.1.cell 0
    have a2 := hRa.1.cell 2
    have b0 := hRb.1.cell 0
    have b1 := hRb.1.cell 1
    have b2 := hRb.1.cell 2
    have b3 := hRb.1.cell 3
    have HAP := Lib.hid (fun W (hK : KeepT [] w W) (hB : Below w.heap.size w W) => appA h ok ga gf base b m e hva (Pl.ph h f b m) gu ou cu s0 gv av [] g2 o' v' H2 W hb hlt he (hT.below hB) (hRa.keep hK (by simp) (by simp)) (hBa.keep hK (by simp) (by simp)) hbg (hbu.keep hK (by simp)) hl0 hn (by simp at hn2; omega) (hK.blk hgv (by simp)) (hS.keep hK (by simp) (by simp)) hbgv (by simp) (hsl1.keep hK (by simp) (by simp)) HNE j2 j3 j4)
    rw [j1, List.nil_append, j5] at HAP
    have HR1 : ∀ W, (Instr.slice 25 (.slice (some ⟨g2, 0, none⟩) (s0 :: H2).length c2) (some (.int .i64 1)) none none).run Tryf.prog W = .ok v' W := fun W => hrun W
    obtain ⟨⟨c4, rfl, hc4⟩, hx4⟩ := id hsl1
    clear hc4 hx4
    have hn3p : (s0 :: H2).length = H2.length + 1 := rfl
    have S1 : ∀ W : World, w.cell? = W.cell? → W.cell? ⟨gb, 2, none⟩ = some (.int .u64 (e : Int)) ∧ W.cell? ⟨gb, 3, none⟩ = some (.slice (some ⟨g2, 0, none⟩) (s0 :: H2).length c2) ∧ W.cell? ⟨g2, 0, none⟩ = some (.slice (some ⟨gu, ou, none⟩) 2 cu) := fun W hW => by rw [← hW]; exact ⟨b2, b3, hcu⟩
    have HBW := Lib.hid hbw
    clear hRa hRb hBa hBb hne hgv hS hsl hsl1 hbu j0 j1 j2 j3 j4 j5 hn hl0 hT hb hm hlt he ok HNE hbw b2 b3 hcu hrun
    generalize hn3 : (s0 :: H2).length = n3 at *
    generalize H2.length = n4 at *
    have n3p : ¬ (n3 : Int) = 0 := by omega
    have n3q : ((n3 : Int) == 0) = false := beq_eq_false_iff_ne.2 n3p
    have n3r : (0 : Int) < (n3 : Int) := by omega
    have n3u : 0 < n3 := by omega
    have hix : ∀ W, (Instr.indexAt 25 (.slice (some ⟨g2, 0, none⟩) n3 c2) (.int .i64 0)).run Tryf.prog W = .ok (.pointer (some ⟨g2, 0, none⟩)) W := fun W => by
      rw [run_indexAt_slice W 25 _ _ _ _ _ (by rw [elemHashes]; exact Tryf.underlying25), if_pos ⟨by omega, by omega⟩, elemHashes, sizeBytes]
      rfl
    have n3s : (1 : Int) ≤ (n3 : Int) := by omega
    have n3c : (n3 : Int) ≤ (c2 : Int) := by omega
    clear hn3 hn3p hn2 hc2
    have nf := nf_fun 38 #[] #[.pointer (some ⟨gv, 0, none⟩)]
    have nfa := nf_fac ⟨gf, 0, none⟩
    go_enter Tryf.func37, Tryf.ntmps37
    go_wp2_with fail
    go_region_held3 (fun w' => w'.cell? ⟨gb, 0, none⟩ = some (.pointer (some ⟨gf, 0, none⟩)) ∧ w'.cell? ⟨ga, 0, none⟩ = some (.pointer (some ⟨gf, 0, none⟩))) (first | assumption | exact ⟨b0, a0⟩ | fail) (fail)
    go_wp2_with fail
    go_region_held3 (fun w' => w'.cell? ⟨gb, 1, none⟩ = some (.int .u64 (m : Int)) ∧ w'.cell? ⟨ga, 2, none⟩ = some (.int .u64 (m : Int))) (first | assumption | exact ⟨b1, a2⟩ | fail) (fail)
    go_wp2_with fail
    obtain ⟨f1, f2, f3⟩ := S1 w.drew.drew rfl
    have KD : KeepT [] w w.drew.drew := (KeepT.refl _ _).drew.drew
    have BD : Below w.heap.size w w.drew.drew := (Below.refl _ _).drew.drew
    clear S1
    generalize w.drew.drew = wd at *
    go_still_tail 17, (by kernel_rfl)
    change wpList _ _ _ _ _ wd.drew
    have KE := KD.drew
    have BE := BD.drew
    generalize wd.drew = we at *
    go_wp2_with fail
    refine (HAP.out _ KE BE).mono ?_; rintro r w' ⟨rfl, k1, k2, k3⟩
    go_wp2_with fail
    go_ret
    exact ⟨rfl, (BE.mono HBW.out).trans k2, k3⟩
  · obtain rfl : m = e := by omega
    have h0 : Pl.ph h f m m = [] := by have := ph_empty h f m; simpa using this
    rw [h0] at hBb
    obtain ⟨A, c, rfl, _⟩ := hBb.form
    refine (appR_empty h ga gb gf b m hva _ A c w hRa hRb).mono ?_
    rintro r w' ⟨rfl, k1, k2⟩
    rw [Pl.toldR_ge h f (by omega)]
    exact ⟨rfl, k2.mono hbw, _, hRa.keep k1 (by simp) (by simp), hBa.keep k1 (by simp) (by simp), _, k1.blk hgv (by simp), hS.keep k1 (by simp) (by simp)⟩
end Go.Proofs.YtpdmmmcelkinjaaFmt
