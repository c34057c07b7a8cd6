/- Each perfect tree of leaves that are there is told just once as the range grows, with its hash. -/
import Derived.Test.YtpdmmmcelkinjaaFmtImplApp
import Derived.Test.YtpdmmmcelkinjaaFmtWorks
import Derived.Test.YtpdmmmcelkinjaaFmtPieceH
import Derived.Test.YtpdmmmcelkinjaaFmtTimes
import Derived.Test.YtpdmmmcelkinjaaFmtToldP
import Derived.Test.YtpdmmmcelkinjaaFmtOpenH
namespace Go.Proofs.YtpdmmmcelkinjaaFmt.fnAppendGrown
open Go.ChangeShapes Go.WideShapes Go.ChangeAt Go.RowKit
set_option maxRecDepth 100000
abbrev SG (w : World) (x1 x2 x3 : Value) (w' : World) : Prop := w'.cell? ⟨w.heap.size, 0, none⟩ = some x1 ∧ w'.cell? ⟨w.heap.size, 1, none⟩ = some x2 ∧ w'.cell? ⟨w.heap.size, 2, none⟩ = some x3
theorem keepG {w W w' : World} {x1 x2 x3 : Value} (hb : Below W.heap.size W w') (h : SG w x1 x2 x3 W) : SG w x1 x2 x3 w' :=
  have up : ∀ {p : Addr} {v : Value}, W.cell? p = some v → w'.cell? p = some v := fun {p} {_} h => (hb.cell (World.block_lt_of_cell? W p h)).trans h
  ⟨up h.1, up h.2.1, up h.2.2⟩
theorem tot_mono (b e : Nat) : ∀ k l, l ≤ k → Pl.tot b e l ≤ Pl.tot b e k
  | 0, l, h => by rw [Nat.le_zero.1 h]; exact Nat.le_refl _
  | k + 1, l, h => by
    rcases Nat.lt_or_ge l (k + 1) with h1 | h1
    · have := tot_mono b e k l (by omega)
      rw [Pl.tot]; omega
    · rw [show l = k + 1 by omega]; exact Nat.le_refl _
set_option maxHeartbeats 8000000 in
theorem main (F : Stop.Interp) (h : Pl.HF) (ok : h.ok) (b : Nat) (Av : Option Addr) (cv : Nat) (P : List (List Nat)) (w : World) (hF : F.answers w.tape) (hT : Tab w) (hv : HashesR w (.slice Av P.length cv) P) (gfP : Fits P) (HFP : Hid (∀ W, Below w.heap.size w W → Calls Tryf.prog 14 #[.slice Av P.length cv] W fun e w' => e = .returned (.bool true) ∧ W = w')) (hb : b ≤ 1152921504606846976) (hn : P.length ≤ 200) (h2 : ∀ x ∈ P, x.length = 2) (HEP : P.length ≠ 0 → Hid (∀ W, Below w.heap.size w W → Calls Tryf.prog 15 #[.slice Av P.length cv] W fun e w' => e = .returned (.bool true) ∧ W = w')) :
    Calls Tryf.prog 7 #[hashV h, .int .u64 (b : Int), .slice Av P.length cv] w fun e w' => e = .returned (.bool true) ∧ Below w.heap.size w w' := by
  have HB := Lib.hid (fun C => (Below.refl w.heap.size w).alloc (Nat.le_refl _) (.cells C 24))
  have HAP := Lib.hid (fun W (hW : Below w.heap.size w W) => append_d F h ok b (.slice Av P.length cv) P W (ans_below hF hW) (hv.below hW) h2 (by omega) (by omega) (hT.below hW))
  have HV := Lib.hid hv
  have HT := Lib.hid hT
  have HF := Lib.hid hF
  have HOK := Lib.hid ok
  have H22 := Lib.hid h2
  have HGF := Lib.hid gfP
  have HN := Lib.hid hn
  have HBB := Lib.hid hb
  have hb1 : (b : Int) ≤ 1152921504606846976 := by omega
  have hn1 : (P.length : Int) ≤ 200 := by omega
  clear hv hT hF ok h2 gfP hb
  by_cases h0 : P.length = 0
  · have hz : (P.length : Int) = 0 := by omega
    have hz1 : ¬ (0 : Int) < (P.length : Int) := by omega
    clear HEP h0 hn
    generalize hnn : P.length = n at *
    have HNN := Lib.hid hnn
    clear hnn
    obtain rfl : n = 0 := by omega
    clear hz hz1 hn1
    obtain ⟨Ah, Bh, Ch⟩ := h
    unfold hashV
    go_enter Tryf.func7, Tryf.ntmps7
    go_wp2_with fail
    refine (HFP.out _ (HB.out _)).mono ?_; rintro e w' ⟨rfl, rfl⟩
    go_wp2_with fail
    refine (HAP.out _ (HB.out _)).mono ?_; rintro r w3 ⟨A2, Ar, A6, A7, c2, nr, cr, c6, c7, nH, nG, nE, e, kb, H, R, G, E, rfl, HEQ, HK, hb3⟩
    have HKH : Hid (Blk w3 w.heap.size 24 #[.int .u32 (Ah : Int), .int .u32 (Bh : Int), .int .u32 (Ch : Int)]) := Lib.hid ((Blk.new w _ _).below' hb3)
    have HB3 := Lib.hid ((HB.out _).trans (hb3.mono (HB.out _).size))
    clear hb3
    obtain rfl : b = e := HEQ.out.1.symm
    have w5 : IntKind.u64.wrap (b : Int) = (b : Int) := wrapN b (by have := HBB.out; omega)
    have w6 : IntKind.u64.wrap 0 = 0 := by decide
    have HMM0 := Lib.hid (fun a z (ha : a < z) (hz : z ≤ P.length) => mth_mid ⟨Ah, Bh, Ch⟩ HOK.out w Av 0 cv a z P HV.out ha hz (by have := HN.out; have := HNN.out; omega))
    unfold hashV at HMM0
    simp only [] at HMM0
    have HEB : Hid (b = b + 0 ∧ b ≤ 1152921504606847176) := Lib.hid (by
      have h1 := HEQ.out.1
      have h2 := HBB.out
      have h3 := HN.out
      omega)
    have HCT : Hid (∀ l i, G.count (l, i, Pl.gv ⟨Ah, Bh, Ch⟩ (Pl.lv P b) (l, i)) = if b ≤ i * 2 ^ l ∧ (i + 1) * 2 ^ l ≤ b then 1 else 0) := Lib.hid (fun l i => by
      rw [HEQ.out.2.2.2.2.1, HEB.out.1]
      exact Pl.grownL_count _ _ b l i 0 (by have := HEB.out; omega))
    have HTO : Hid (nG = Pl.tot b b 8) := Lib.hid (by
      rw [HEQ.out.2.2.2.2.2.2.2.2.1, HEQ.out.2.2.2.2.1, HEB.out.1]
      exact Pl.grownL_tot _ _ b 0 (by have := HEB.out; omega) (by have := HN.out; omega))
    have HGL : Hid (G.length ≤ 1000000) := Lib.hid (by
      rw [HEQ.out.2.2.2.2.1]
      have h1 := Pl.grownL_length ⟨Ah, Bh, Ch⟩ (Pl.lv P b) b 0 (by have := HEB.out; omega)
      have h2 := HN.out
      omega)
    have BA : Below w3.heap.size w3 (w3.alloc (.cells #[.int .u64 (b : Int), .int .u64 (b : Int), .slice A2 nH c2, .slice Ar nr cr, .bool kb, .slice A6 nG c6, .slice A7 nE c7] 31)) := (Below.refl _ _).alloc (Nat.le_refl _) _
    have HKR := Lib.hid (Blk.new w3 31 #[.int .u64 (b : Int), .int .u64 (b : Int), .slice A2 nH c2, .slice Ar nr cr, .bool kb, .slice A6 nG c6, .slice A7 nE c7])
    have HSG := Lib.hid (HK.out.2.2.1.below BA)
    have HKH4 := Lib.hid (HKH.out.below' BA)
    have HB4 := Lib.hid (HB3.out.trans (BA.mono HB3.out.size))
    clear BA HK
    go_wp2_with fail
    generalize w3.alloc (.cells #[.int .u64 (b : Int), .int .u64 (b : Int), .slice A2 nH c2, .slice Ar nr cr, .bool kb, .slice A6 nG c6, .slice A7 nE c7] 31) = W0 at *
    go_loopw [9, 10, 11, 12] (fun mv lv _ _ wr => ∃ l m : Nat, l ≤ 8 ∧ Hid (m = Pl.tot b b l) ∧ mv = .int .i64 (m : Int) ∧ lv = .int .u64 (l : Int) ∧ Below W0.heap.size W0 wr) (fun _ lv _ _ _ => 8 - (intOf lv).toNat)
    case atStart => exact ⟨0, 0, Nat.zero_le _, Lib.hid rfl, rfl, rfl, Below.refl _ _⟩
    case round =>
      obtain ⟨l, m, hl, HMT, rfl, rfl, hB⟩ := hrel
      by_cases hl8 : l < 8
      · have hl1 : (l : Int) < 8 := by omega
        have hmin : min l 64 = l := by omega
        obtain ⟨wd, hwd⟩ : ∃ wd, wd = 2 ^ l := ⟨_, rfl⟩
        have HWD := Lib.hid hwd
        have HW0 := Lib.hid (show 0 < wd by rw [hwd]; exact Nat.two_pow_pos l)
        obtain ⟨q0, hq0⟩ : ∃ q, q = b / wd := ⟨_, rfl⟩
        obtain ⟨q1, hq1⟩ : ∃ q, q = b / wd := ⟨_, rfl⟩
        have HQ0 := Lib.hid hq0
        have HQ1 := Lib.hid hq1
        have e1 : (2 : Int) ^ l = (wd : Int) := by rw [hwd]; simp
        have e3 : (b : Int) / (wd : Int) = (q0 : Int) := by rw [hq0]; simp
        have HQQ : Hid (q0 ≤ q1) := Lib.hid (by rw [hq0, hq1]; exact Nat.div_le_div_right (by have := HEB.out.1; omega))
        have HC0 : Hid (q0 ≤ Pl.ceilAt b l) := Lib.hid (by rw [hq0, hwd]; exact Nat.div_le_div_right (by omega))
        have HCC : Hid (∀ q, Pl.ceilAt b l ≤ q ↔ b ≤ q * wd) := Lib.hid (by rw [hwd]; exact Pl.ceil_le b l)
        have HTN : Hid (Pl.tot b b (l + 1) = m + (q1 - Pl.ceilAt b l)) := Lib.hid (by rw [Pl.tot, HMT.out, hq1, hwd])
        clear hwd hq0 hq1
        go_wp2_with fail
        obtain ⟨wo, rfl⟩ : ∃ wo : World, wo = wr := ⟨_, rfl⟩
        go_loopw [9, 11, 12] (fun mv iv _ wi => ∃ i c : Nat, q0 ≤ i ∧ i ≤ q1 ∧ Hid (c = m + (i - Pl.ceilAt b l)) ∧ mv = .int .i64 (c : Int) ∧ iv = .int .u64 (i : Int) ∧ Below W0.heap.size W0 wi) (fun _ iv _ _ => q1 - (intOf iv).toNat)
        case atStart => exact ⟨q0, m, Nat.le_refl _, HQQ.out, Lib.hid (by have := HC0.out; omega), rfl, rfl, hB⟩
        case round =>
          obtain ⟨i, c, hi0, hi1, HC, rfl, rfl, hW⟩ := hrel
          obtain ⟨z0, hz0⟩ : ∃ z, z = i * wd := ⟨_, rfl⟩
          obtain ⟨z1, hz1⟩ : ∃ z, z = (i + 1) * wd := ⟨_, rfl⟩
          have hzz : z1 = z0 + wd := by rw [hz0, hz1]; exact Nat.succ_mul _ _
          have hqe : q1 * wd ≤ b := by rw [HQ1.out]; exact Nat.div_mul_le_self _ _
          have hze : z0 ≤ b := Nat.le_trans (by rw [hz0]; exact Nat.mul_le_mul_right _ hi1) hqe
          have hwd2 : wd ≤ 128 := by rw [HWD.out]; exact Nat.pow_le_pow_right (by omega) (show l ≤ 7 by omega)
          have hie : i ≤ b := Nat.le_trans (Nat.le_mul_of_pos_right i HW0.out) (by rw [← hz0]; exact hze)
          obtain ⟨i1, hi1'⟩ : ∃ j, j = i + 1 := ⟨_, rfl⟩
          have f1 : IntKind.u64.wrap ((i : Int) + 1) = (i1 : Int) := by have := wrapN (i + 1) (by have := HEB.out.2; omega); rw [hi1']; simpa using this
          have f2 : IntKind.u64.wrap ((i : Int) * (wd : Int)) = (z0 : Int) := by have := wrapN z0 (by have := HEB.out.2; omega); rw [← this, hz0]; simp
          have f3 : IntKind.u64.wrap ((i1 : Int) * (wd : Int)) = (z1 : Int) := by have := wrapN z1 (by have := HEB.out.2; omega); rw [← this, hz1, hi1']; simp
          have HI1 := Lib.hid hi1'
          have HZ := Lib.hid (show z0 = i * wd ∧ z1 = (i + 1) * wd ∧ z1 = z0 + wd ∧ z0 ≤ b from ⟨hz0, hz1, hzz, hze⟩)
          have HIQ : Hid (i < q1 ↔ z1 ≤ b) := Lib.hid (by
            rw [hz1, HQ1.out]
            exact (Nat.le_div_iff_mul_le HW0.out))
          clear hz0 hz1 hzz hqe hze hwd2 hie hi1'
          by_cases hlt : z1 ≤ b
          · have g1 : (z1 : Int) ≤ (b : Int) := by omega
            by_cases hzb : z0 < b
            · have g2 : (z0 : Int) < (b : Int) := by omega
              have HCN : Hid (c = m + (i1 - Pl.ceilAt b l)) := Lib.hid (by
                have h1 : ¬ Pl.ceilAt b l ≤ i := fun h => by have h2 := (HCC.out i).1 h; have h3 := HZ.out.1; omega
                rw [HC.out, HI1.out]; omega)
              have hiq := HIQ.out.2 hlt
              go_wp2_with fail
              go_roundw
              case rel => exact ⟨i1, c, by have := HI1.out; omega, by have := HI1.out; omega, HCN, rfl, by go_num, hW⟩
              case measure => have h9 := HI1.out; simp [intOf] <;> omega
            · have g2 : ¬ (z0 : Int) < (b : Int) := by omega
              have hiq := HIQ.out.2 hlt
              obtain ⟨za, hza⟩ : ∃ z, z = z0 - b := ⟨_, rfl⟩
              obtain ⟨zz, hzz⟩ : ∃ z, z = z1 - b := ⟨_, rfl⟩
              have f4 : IntKind.u64.wrap ((z0 : Int) - (b : Int)) = (za : Int) := by have h1 := wrapN za (by have := HEB.out.2; have := HZ.out.2.2.2; omega); rw [← h1]; congr 1; omega
              have f5 : IntKind.u64.wrap ((z1 : Int) - (b : Int)) = (zz : Int) := by have h1 := wrapN zz (by have := HEB.out.2; omega); rw [← h1]; congr 1; have := HZ.out.2.2.1; omega
              obtain ⟨v1, r1, ⟨Bm, mm, cm, ev1⟩, hM⟩ := HMM0.out za zz (by have := HZ.out.2.2.1; have := HW0.out; omega) (by have := HNN.out; have := HEB.out.1; omega)
              have HGV : Pl.gv ⟨Ah, Bh, Ch⟩ (Pl.lv P b) (l, i) = Pl.mr ⟨Ah, Bh, Ch⟩ (Pl.atL P) za (zz - za) := by
                rw [gv_lv _ _ _ _ _ (by rw [← HWD.out, ← HZ.out.1]; omega), ← HWD.out, ← HZ.out.1, ← hza, show zz - za = wd by have := HZ.out.2.2.1; omega]
              rw [← HGV] at hM
              have HCNT : Hid (G.count (l, i, Pl.gv ⟨Ah, Bh, Ch⟩ (Pl.lv P b) (l, i)) = 1) := Lib.hid (by rw [HCT.out, if_pos ⟨by rw [← HWD.out, ← HZ.out.1]; omega, by rw [← HWD.out, ← HZ.out.2.1]; exact hlt⟩])
              have HCN : Hid (c + 1 = m + (i1 - Pl.ceilAt b l)) := Lib.hid (by
                have h1 : Pl.ceilAt b l ≤ i := (HCC.out i).2 (by have h3 := HZ.out.1; omega)
                rw [HC.out, HI1.out]; omega)
              have hcb : c + 1 ≤ 1000000 := by
                have h1 := tot_mono b b 8 (l + 1) (by omega)
                have h2 := HTN.out
                have h3 := HTO.out
                have h4 := HGL.out
                have h5 := HEQ.out.2.2.2.2.2.2.2.2.1
                have h6 := HCN.out
                have h7 := HI1.out
                omega
              clear HGV hza hzz
              generalize Pl.gv ⟨Ah, Bh, Ch⟩ (Pl.lv P b) (l, i) = hh at *
              have HMM := Lib.hid hM
              subst ev1
              clear hM
              have BW := HB4.out.trans (hW.mono HB4.out.size)
              have KH := (HKH4.out.below' hW).drew
              have S0 : SG w (.int .u32 (Ah : Int)) (.int .u32 (Bh : Int)) (.int .u32 (Ch : Int)) wr.drew := ⟨KH.cell 0, KH.cell 1, KH.cell 2⟩
              have HBD := Lib.hid hW.drew
              have HBW := Lib.hid BW.drew
              clear KH BW
              go_wp2_with fail
              go_region_held_law (fun w' => w'.cell? ⟨w.heap.size, 0, none⟩ = some (.int .u32 (Ah : Int)) ∧ w'.cell? ⟨w.heap.size, 1, none⟩ = some (.int .u32 (Bh : Int)) ∧ w'.cell? ⟨w.heap.size, 2, none⟩ = some (.int .u32 (Ch : Int)))
                (first | with_reducible assumption | with_reducible exact S0 | with_reducible exact keepG hbm S0 | fail)
                (first
                  | (go_at_call 18; refine (HMM.out _ HBW.out).mono ?_; rintro e9 w9 ⟨um, rfl, hum, hbm, _⟩; obtain ⟨Au, nu, cu, rfl⟩ : ∃ A n c, um = .slice A n c := by obtain ⟨A, c, e, _⟩ := hum; exact ⟨A, _, c, e⟩)
                  | fail)
              all_goals
                have B9 := HBD.out.trans (hbm.mono HBD.out.size)
                have k5 := (HKR.out.below' B9).cell 5
                have HTI := Lib.hid ((times_c G (.slice A6 nG c6) _ l i Au nu cu hh w9 (HSG.out.below B9) hum HGL.out).mono (fun r w' h => show r = .returned (.int .i64 1) ∧ Below w9.heap.size w9 w' from ⟨by rw [h.1, HCNT.out]; rfl, h.2⟩))
                have HB9 := Lib.hid B9
                clear B9 hum hbm
                go_wp2_with fail
                refine HTI.out.mono ?_; rintro r w8 ⟨rfl, hb8⟩
                have hfin := HB9.out.trans (hb8.mono HB9.out.size)
                clear hb8
                go_wp2_with fail
                go_roundw
                case rel => exact ⟨i1, c + 1, by have := HI1.out; omega, by have := HI1.out; omega, HCN, by go_num, by go_num, hfin⟩
                case measure => have h9 := HI1.out; simp [intOf] <;> omega
          · have g1 : ¬ (z1 : Int) ≤ (b : Int) := by omega
            have hiq : ¬ i < q1 := fun h => hlt (HIQ.out.1 h)
            obtain rfl : i = q1 := by omega
            go_wp2_with fail
            go_roundw
            case rel => exact ⟨l + 1, c, by omega, Lib.hid (by rw [HTN.out, HC.out]), rfl, by go_num, hW⟩
            case measure => simp [intOf] <;> omega
      · have hl1 : ¬ (l : Int) < 8 := by omega
        obtain rfl : l = 8 := by omega
        obtain rfl : m = nG := by rw [HMT.out, HTO.out]
        have k5 := (HKR.out.below' hB).cell 5
        have BF := HB4.out.trans (hB.mono HB4.out.size)
        go_wp2_with fail
        refine (works_c _).mono ?_; rintro r w6 ⟨rfl, hb6⟩
        go_wp2_with fail
        go_ret
        exact ⟨by first | rfl | (simp <;> omega), BF.trans (hb6.mono BF.size)⟩
  · have HE1 := HEP h0
    have hz : ¬ (P.length : Int) = 0 := by omega
    have hz1 : (0 : Int) < (P.length : Int) := by omega
    have hz2 : ((P.length : Int) == 0) = false := beq_eq_false_iff_ne.2 hz
    clear HEP h0 hn
    generalize hnn : P.length = n at *
    have HNN := Lib.hid hnn
    clear hnn
    obtain ⟨Ah, Bh, Ch⟩ := h
    unfold hashV
    go_enter Tryf.func7, Tryf.ntmps7
    go_wp2_with fail
    refine (HFP.out _ (HB.out _)).mono ?_; rintro e w' ⟨rfl, rfl⟩
    go_wp2_with fail
    refine (HE1.out _ (HB.out _)).mono ?_; rintro e w' ⟨rfl, rfl⟩
    go_wp2_with fail
    refine (HAP.out _ (HB.out _)).mono ?_; rintro r w3 ⟨A2, Ar, A6, A7, c2, nr, cr, c6, c7, nH, nG, nE, e, kb, H, R, G, E, rfl, HEQ, HK, hb3⟩
    have HKH : Hid (Blk w3 w.heap.size 24 #[.int .u32 (Ah : Int), .int .u32 (Bh : Int), .int .u32 (Ch : Int)]) := Lib.hid ((Blk.new w _ _).below' hb3)
    have HB3 := Lib.hid ((HB.out _).trans (hb3.mono (HB.out _).size))
    clear hb3
    have HMM0 := Lib.hid (fun a z (ha : a < z) (hz : z ≤ P.length) => mth_mid ⟨Ah, Bh, Ch⟩ HOK.out w Av n cv a z P HV.out ha hz (by have := HN.out; have := HNN.out; omega))
    unfold hashV at HMM0
    simp only [] at HMM0
    have HEB : Hid (e = b + n ∧ e ≤ 1152921504606847176) := Lib.hid (by
      have h1 := HEQ.out.1
      have h2 := HBB.out
      have h3 := HN.out
      omega)
    have HCT : Hid (∀ l i, G.count (l, i, Pl.gv ⟨Ah, Bh, Ch⟩ (Pl.lv P b) (l, i)) = if b ≤ i * 2 ^ l ∧ (i + 1) * 2 ^ l ≤ e then 1 else 0) := Lib.hid (fun l i => by
      rw [HEQ.out.2.2.2.2.1, HEB.out.1]
      exact Pl.grownL_count _ _ b l i n (by have := HEB.out; omega))
    have HTO : Hid (nG = Pl.tot b e 8) := Lib.hid (by
      rw [HEQ.out.2.2.2.2.2.2.2.2.1, HEQ.out.2.2.2.2.1, HEB.out.1]
      exact Pl.grownL_tot _ _ b n (by have := HEB.out; omega) (by have := HN.out; omega))
    have HGL : Hid (G.length ≤ 1000000) := Lib.hid (by
      rw [HEQ.out.2.2.2.2.1]
      have h1 := Pl.grownL_length ⟨Ah, Bh, Ch⟩ (Pl.lv P b) b n (by have := HEB.out; omega)
      have h2 := HN.out
      omega)
    have t1 : IntKind.u64.wrap ((n : Nat) : Int) = ((n : Nat) : Int) := wrapN _ (by have := HN.out; omega)
    have t2 : IntKind.u64.wrap ((b : Int) + ((n : Nat) : Int)) = (e : Int) := by have h1 := wrapN (b + n) (by have := HEB.out; omega); rw [← HEB.out.1] at h1; rw [show ((b : Int) + ((n : Nat) : Int)) = (e : Int) by have := HEB.out.1; omega]; exact h1
    have BA : Below w3.heap.size w3 (w3.alloc (.cells #[.int .u64 (b : Int), .int .u64 (e : Int), .slice A2 nH c2, .slice Ar nr cr, .bool kb, .slice A6 nG c6, .slice A7 nE c7] 31)) := (Below.refl _ _).alloc (Nat.le_refl _) _
    have HKR := Lib.hid (Blk.new w3 31 #[.int .u64 (b : Int), .int .u64 (e : Int), .slice A2 nH c2, .slice Ar nr cr, .bool kb, .slice A6 nG c6, .slice A7 nE c7])
    have HSG := Lib.hid (HK.out.2.2.1.below BA)
    have HKH4 := Lib.hid (HKH.out.below' BA)
    have HB4 := Lib.hid (HB3.out.trans (BA.mono HB3.out.size))
    clear BA HK
    go_wp2_with fail
    generalize w3.alloc (.cells #[.int .u64 (b : Int), .int .u64 (e : Int), .slice A2 nH c2, .slice Ar nr cr, .bool kb, .slice A6 nG c6, .slice A7 nE c7] 31) = W0 at *
    go_loopw [9, 10, 11, 12] (fun mv lv _ _ wr => ∃ l m : Nat, l ≤ 8 ∧ Hid (m = Pl.tot b e l) ∧ mv = .int .i64 (m : Int) ∧ lv = .int .u64 (l : Int) ∧ Below W0.heap.size W0 wr) (fun _ lv _ _ _ => 8 - (intOf lv).toNat)
    case atStart => exact ⟨0, 0, Nat.zero_le _, Lib.hid rfl, rfl, rfl, Below.refl _ _⟩
    case round =>
      obtain ⟨l, m, hl, HMT, rfl, rfl, hB⟩ := hrel
      by_cases hl8 : l < 8
      · have hl1 : (l : Int) < 8 := by omega
        have hmin : min l 64 = l := by omega
        obtain ⟨wd, hwd⟩ : ∃ wd, wd = 2 ^ l := ⟨_, rfl⟩
        have HWD := Lib.hid hwd
        have HW0 := Lib.hid (show 0 < wd by rw [hwd]; exact Nat.two_pow_pos l)
        obtain ⟨q0, hq0⟩ : ∃ q, q = b / wd := ⟨_, rfl⟩
        obtain ⟨q1, hq1⟩ : ∃ q, q = e / wd := ⟨_, rfl⟩
        have HQ0 := Lib.hid hq0
        have HQ1 := Lib.hid hq1
        have e1 : (2 : Int) ^ l = (wd : Int) := by rw [hwd]; simp
        have e3 : (b : Int) / (wd : Int) = (q0 : Int) := by rw [hq0]; simp
        have HQQ : Hid (q0 ≤ q1) := Lib.hid (by rw [hq0, hq1]; exact Nat.div_le_div_right (by have := HEB.out.1; omega))
        have HC0 : Hid (q0 ≤ Pl.ceilAt b l) := Lib.hid (by rw [hq0, hwd]; exact Nat.div_le_div_right (by omega))
        have HCC : Hid (∀ q, Pl.ceilAt b l ≤ q ↔ b ≤ q * wd) := Lib.hid (by rw [hwd]; exact Pl.ceil_le b l)
        have HTN : Hid (Pl.tot b e (l + 1) = m + (q1 - Pl.ceilAt b l)) := Lib.hid (by rw [Pl.tot, HMT.out, hq1, hwd])
        clear hwd hq0 hq1
        go_wp2_with fail
        obtain ⟨wo, rfl⟩ : ∃ wo : World, wo = wr := ⟨_, rfl⟩
        go_loopw [9, 11, 12] (fun mv iv _ wi => ∃ i c : Nat, q0 ≤ i ∧ i ≤ q1 ∧ Hid (c = m + (i - Pl.ceilAt b l)) ∧ mv = .int .i64 (c : Int) ∧ iv = .int .u64 (i : Int) ∧ Below W0.heap.size W0 wi) (fun _ iv _ _ => q1 - (intOf iv).toNat)
        case atStart => exact ⟨q0, m, Nat.le_refl _, HQQ.out, Lib.hid (by have := HC0.out; omega), rfl, rfl, hB⟩
        case round =>
          obtain ⟨i, c, hi0, hi1, HC, rfl, rfl, hW⟩ := hrel
          obtain ⟨z0, hz0⟩ : ∃ z, z = i * wd := ⟨_, rfl⟩
          obtain ⟨z1, hz1⟩ : ∃ z, z = (i + 1) * wd := ⟨_, rfl⟩
          have hzz : z1 = z0 + wd := by rw [hz0, hz1]; exact Nat.succ_mul _ _
          have hqe : q1 * wd ≤ e := by rw [HQ1.out]; exact Nat.div_mul_le_self _ _
          have hze : z0 ≤ e := Nat.le_trans (by rw [hz0]; exact Nat.mul_le_mul_right _ hi1) hqe
          have hwd2 : wd ≤ 128 := by rw [HWD.out]; exact Nat.pow_le_pow_right (by omega) (show l ≤ 7 by omega)
          have hie : i ≤ e := Nat.le_trans (Nat.le_mul_of_pos_right i HW0.out) (by rw [← hz0]; exact hze)
          obtain ⟨i1, hi1'⟩ : ∃ j, j = i + 1 := ⟨_, rfl⟩
          have f1 : IntKind.u64.wrap ((i : Int) + 1) = (i1 : Int) := by have := wrapN (i + 1) (by have := HEB.out.2; omega); rw [hi1']; simpa using this
          have f2 : IntKind.u64.wrap ((i : Int) * (wd : Int)) = (z0 : Int) := by have := wrapN z0 (by have := HEB.out.2; omega); rw [← this, hz0]; simp
          have f3 : IntKind.u64.wrap ((i1 : Int) * (wd : Int)) = (z1 : Int) := by have := wrapN z1 (by have := HEB.out.2; omega); rw [← this, hz1, hi1']; simp
          have HI1 := Lib.hid hi1'
          have HZ := Lib.hid (show z0 = i * wd ∧ z1 = (i + 1) * wd ∧ z1 = z0 + wd ∧ z0 ≤ e from ⟨hz0, hz1, hzz, hze⟩)
          have HIQ : Hid (i < q1 ↔ z1 ≤ e) := Lib.hid (by
            rw [hz1, HQ1.out]
            exact (Nat.le_div_iff_mul_le HW0.out))
          clear hz0 hz1 hzz hqe hze hwd2 hie hi1'
          by_cases hlt : z1 ≤ e
          · have g1 : (z1 : Int) ≤ (e : Int) := by omega
            by_cases hzb : z0 < b
            · have g2 : (z0 : Int) < (b : Int) := by omega
              have HCN : Hid (c = m + (i1 - Pl.ceilAt b l)) := Lib.hid (by
                have h1 : ¬ Pl.ceilAt b l ≤ i := fun h => by have h2 := (HCC.out i).1 h; have h3 := HZ.out.1; omega
                rw [HC.out, HI1.out]; omega)
              have hiq := HIQ.out.2 hlt
              go_wp2_with fail
              go_roundw
              case rel => exact ⟨i1, c, by have := HI1.out; omega, by have := HI1.out; omega, HCN, rfl, by go_num, hW⟩
              case measure => have h9 := HI1.out; simp [intOf] <;> omega
            · have g2 : ¬ (z0 : Int) < (b : Int) := by omega
              have hiq := HIQ.out.2 hlt
              obtain ⟨za, hza⟩ : ∃ z, z = z0 - b := ⟨_, rfl⟩
              obtain ⟨zz, hzz⟩ : ∃ z, z = z1 - b := ⟨_, rfl⟩
              have f4 : IntKind.u64.wrap ((z0 : Int) - (b : Int)) = (za : Int) := by have h1 := wrapN za (by have := HEB.out.2; have := HZ.out.2.2.2; omega); rw [← h1]; congr 1; omega
              have f5 : IntKind.u64.wrap ((z1 : Int) - (b : Int)) = (zz : Int) := by have h1 := wrapN zz (by have := HEB.out.2; omega); rw [← h1]; congr 1; have := HZ.out.2.2.1; omega
              obtain ⟨v1, r1, ⟨Bm, mm, cm, ev1⟩, hM⟩ := HMM0.out za zz (by have := HZ.out.2.2.1; have := HW0.out; omega) (by have := HNN.out; have := HEB.out.1; omega)
              have HGV : Pl.gv ⟨Ah, Bh, Ch⟩ (Pl.lv P b) (l, i) = Pl.mr ⟨Ah, Bh, Ch⟩ (Pl.atL P) za (zz - za) := by
                rw [gv_lv _ _ _ _ _ (by rw [← HWD.out, ← HZ.out.1]; omega), ← HWD.out, ← HZ.out.1, ← hza, show zz - za = wd by have := HZ.out.2.2.1; omega]
              rw [← HGV] at hM
              have HCNT : Hid (G.count (l, i, Pl.gv ⟨Ah, Bh, Ch⟩ (Pl.lv P b) (l, i)) = 1) := Lib.hid (by rw [HCT.out, if_pos ⟨by rw [← HWD.out, ← HZ.out.1]; omega, by rw [← HWD.out, ← HZ.out.2.1]; exact hlt⟩])
              have HCN : Hid (c + 1 = m + (i1 - Pl.ceilAt b l)) := Lib.hid (by
                have h1 : Pl.ceilAt b l ≤ i := (HCC.out i).2 (by have h3 := HZ.out.1; omega)
                rw [HC.out, HI1.out]; omega)
              have hcb : c + 1 ≤ 1000000 := by
                have h1 := tot_mono b e 8 (l + 1) (by omega)
                have h2 := HTN.out
                have h3 := HTO.out
                have h4 := HGL.out
                have h5 := HEQ.out.2.2.2.2.2.2.2.2.1
                have h6 := HCN.out
                have h7 := HI1.out
                omega
              clear HGV hza hzz
              generalize Pl.gv ⟨Ah, Bh, Ch⟩ (Pl.lv P b) (l, i) = hh at *
              have HMM := Lib.hid hM
              subst ev1
              clear hM
              have BW := HB4.out.trans (hW.mono HB4.out.size)
              have KH := (HKH4.out.below' hW).drew
              have S0 : SG w (.int .u32 (Ah : Int)) (.int .u32 (Bh : Int)) (.int .u32 (Ch : Int)) wr.drew := ⟨KH.cell 0, KH.cell 1, KH.cell 2⟩
              have HBD := Lib.hid hW.drew
              have HBW := Lib.hid BW.drew
              clear KH BW
              go_wp2_with fail
              go_region_held_law (fun w' => w'.cell? ⟨w.heap.size, 0, none⟩ = some (.int .u32 (Ah : Int)) ∧ w'.cell? ⟨w.heap.size, 1, none⟩ = some (.int .u32 (Bh : Int)) ∧ w'.cell? ⟨w.heap.size, 2, none⟩ = some (.int .u32 (Ch : Int)))
                (first | with_reducible assumption | with_reducible exact S0 | with_reducible exact keepG hbm S0 | fail)
                (first
                  | (go_at_call 18; refine (HMM.out _ HBW.out).mono ?_; rintro e9 w9 ⟨um, rfl, hum, hbm, _⟩; obtain ⟨Au, nu, cu, rfl⟩ : ∃ A n c, um = .slice A n c := by obtain ⟨A, c, e, _⟩ := hum; exact ⟨A, _, c, e⟩)
                  | fail)
              all_goals
                have B9 := HBD.out.trans (hbm.mono HBD.out.size)
                have k5 := (HKR.out.below' B9).cell 5
                have HTI := Lib.hid ((times_c G (.slice A6 nG c6) _ l i Au nu cu hh w9 (HSG.out.below B9) hum HGL.out).mono (fun r w' h => show r = .returned (.int .i64 1) ∧ Below w9.heap.size w9 w' from ⟨by rw [h.1, HCNT.out]; rfl, h.2⟩))
                have HB9 := Lib.hid B9
                clear B9 hum hbm
                go_wp2_with fail
                refine HTI.out.mono ?_; rintro r w8 ⟨rfl, hb8⟩
                have hfin := HB9.out.trans (hb8.mono HB9.out.size)
                clear hb8
                go_wp2_with fail
                go_roundw
                case rel => exact ⟨i1, c + 1, by have := HI1.out; omega, by have := HI1.out; omega, HCN, by go_num, by go_num, hfin⟩
                case measure => have h9 := HI1.out; simp [intOf] <;> omega
          · have g1 : ¬ (z1 : Int) ≤ (e : Int) := by omega
            have hiq : ¬ i < q1 := fun h => hlt (HIQ.out.1 h)
            obtain rfl : i = q1 := by omega
            go_wp2_with fail
            go_roundw
            case rel => exact ⟨l + 1, c, by omega, Lib.hid (by rw [HTN.out, HC.out]), rfl, by go_num, hW⟩
            case measure => simp [intOf] <;> omega
      · have hl1 : ¬ (l : Int) < 8 := by omega
        obtain rfl : l = 8 := by omega
        obtain rfl : m = nG := by rw [HMT.out, HTO.out]
        have k5 := (HKR.out.below' hB).cell 5
        have BF := HB4.out.trans (hB.mono HB4.out.size)
        go_wp2_with fail
        refine (works_c _).mono ?_; rintro r w6 ⟨rfl, hb6⟩
        go_wp2_with fail
        go_ret
        exact ⟨by first | rfl | (simp <;> omega), BF.trans (hb6.mono BF.size)⟩
set_option maxHeartbeats 4000000 in
theorem walk (F : Stop.Interp) (w : World) (hF : F.answers w.tape) (h : Pl.HF) (ok : h.ok) (a1 : Int) (w1 : 0 ≤ a1 ∧ a1 < 18446744073709551616) (v : Value) (P : List (List Nat)) (hv : HashesR w v P) (hT : LaidIs w) :
    Calls Tryf.prog 7 #[hashV h, .int .u64 a1, v] w fun e w' => e = .returned (.bool true) ∧ Below w.heap.size w w' := by
  obtain ⟨b, rfl⟩ := Int.eq_ofNat_of_zero_le w1.1
  have hbs : b < 18446744073709551616 := by omega
  clear w1
  have HB := Lib.hid (fun C => (Below.refl w.heap.size w).alloc (Nat.le_refl _) (.cells C 24))
  obtain ⟨Av, cv, ev, h9v⟩ := id hv
  clear h9v
  subst ev
  by_cases g0 : ¬ Fits P
  case pos =>
    have HFx : Hid (∀ W, Below w.heap.size w W → Calls Tryf.prog 14 #[.slice Av P.length cv] W fun e w' => e = .returned (.bool false) ∧ W = w') := Lib.hid (fun W hb => (fits1_c (.slice Av P.length cv) P W (hv.below hb)).mono fun _ _ r => r.no g0)
    obtain ⟨Ah, Bh, Ch⟩ := h
    unfold hashV
    clear hbs hT hF hv g0 ok
    go_enter Tryf.func7, Tryf.ntmps7
    go_wp2_with fail
    refine (HFx.out _ (HB.out _)).mono ?_; rintro e w' ⟨rfl, rfl⟩
    go_wp2_with fail
    go_ret
    exact ⟨rfl, HB.out _⟩
  have gfP : Fits P := Classical.not_not.1 g0
  clear g0
  have HFP : Hid (∀ W, Below w.heap.size w W → Calls Tryf.prog 14 #[.slice Av P.length cv] W fun e w' => e = .returned (.bool true) ∧ W = w') := Lib.hid (fun W hb => (fits1_c (.slice Av P.length cv) P W (hv.below hb)).mono fun _ _ r => r.yes gfP)
  by_cases g1 : (200 : Int) < (P.length : Int)
  case pos =>
    obtain ⟨Ah, Bh, Ch⟩ := h
    unfold hashV
    clear hbs hT hF hv gfP ok
    go_enter Tryf.func7, Tryf.ntmps7
    go_wp2_with fail
    refine (HFP.out _ (HB.out _)).mono ?_; rintro e w' ⟨rfl, rfl⟩
    go_wp2_with fail
    go_ret
    exact ⟨rfl, HB.out _⟩
  by_cases g2 : P.length ≠ 0 ∧ ¬ IsLeaves P
  case pos =>
    have HSx : Hid (∀ W, Below w.heap.size w W → Calls Tryf.prog 15 #[.slice Av P.length cv] W fun e w' => e = .returned (.bool false) ∧ W = w') := Lib.hid (fun W hb => (leaves_c (.slice Av P.length cv) P W (hv.below hb) gfP.1).mono fun _ _ r => r.no g2.2)
    have hz1 : (0 : Int) < (P.length : Int) := by have := g2.1; omega
    obtain ⟨Ah, Bh, Ch⟩ := h
    unfold hashV
    clear hbs hT hF hv gfP g2 ok
    go_enter Tryf.func7, Tryf.ntmps7
    go_wp2_with fail
    refine (HFP.out _ (HB.out _)).mono ?_; rintro e w' ⟨rfl, rfl⟩
    go_wp2_with fail
    refine (HSx.out _ (HB.out _)).mono ?_; rintro e w' ⟨rfl, rfl⟩
    go_wp2_with fail
    go_ret
    exact ⟨rfl, HB.out _⟩
  have g3 : P.length = 0 ∨ IsLeaves P := by
    by_cases h0 : P.length = 0
    · exact .inl h0
    · exact .inr (Classical.not_not.1 fun hc => g2 ⟨h0, hc⟩)
  clear g2
  have h2 : ∀ x ∈ P, x.length = 2 := by
    rcases g3 with h0 | h1
    · rw [List.eq_nil_of_length_eq_zero h0]; intro x hx; cases hx
    · exact h1.1
  have HEP : P.length ≠ 0 → Hid (∀ W, Below w.heap.size w W → Calls Tryf.prog 15 #[.slice Av P.length cv] W fun e w' => e = .returned (.bool true) ∧ W = w') := fun h0 => Lib.hid (fun W hb => (leaves_c (.slice Av P.length cv) P W (hv.below hb) gfP.1).mono fun _ _ r => r.yes (g3.resolve_left h0))
  by_cases g4 : (1152921504606846976 : Int) < (b : Int)
  case pos =>

    by_cases h0 : P.length = 0
    case pos =>
      clear hbs hT hF hv gfP ok HEP g3 h2 g1
      generalize hnn : P.length = n at *
      subst h0
      clear hnn
      obtain ⟨Ah, Bh, Ch⟩ := h
      unfold hashV
      go_enter Tryf.func7, Tryf.ntmps7
      go_wp2_with fail
      refine (HFP.out _ (HB.out _)).mono ?_; rintro e w' ⟨rfl, rfl⟩
      go_wp2_with fail
      go_ret
      exact ⟨rfl, HB.out _⟩
    have HE1 := HEP h0
    have hz1 : (0 : Int) < (P.length : Int) := by omega
    clear HEP g3 h2 h0
    obtain ⟨Ah, Bh, Ch⟩ := h
    unfold hashV
    clear hbs hT hF hv gfP ok
    go_enter Tryf.func7, Tryf.ntmps7
    go_wp2_with fail
    refine (HFP.out _ (HB.out _)).mono ?_; rintro e w' ⟨rfl, rfl⟩
    go_wp2_with fail
    refine (HE1.out _ (HB.out _)).mono ?_; rintro e w' ⟨rfl, rfl⟩
    go_wp2_with fail
    go_ret
    exact ⟨rfl, HB.out _⟩
  exact main F h ok b Av cv P w hF hT hv gfP HFP (by omega) (by omega) h2 HEP
theorem reads (os : Os) {H : Type} (enc : TypeId × Value → H) : ∃ places, DataW.whole enc Tryf.prog ((laidWorld os).forCall (fun _ _ => 0) ⟨#[], #[.agg #[.int .u32 0, .int .u32 0, .int .u32 0], .int .u64 0, .slice none 0 0], []⟩).memory Tryf.f7.params.toList Rows.fnAppendGrownSpec.vars false (#[.agg #[.int .u32 0, .int .u32 0, .int .u32 0], .int .u64 0, .slice none 0 0] : Array Value).toList 8 = some ([.agg [.lit (.int .u32 0), .lit (.int .u32 0), .lit (.int .u32 0)], .lit (.int .u64 0), .nil], [], places) :=
  ⟨[], by kernel_rfl⟩
set_option maxRecDepth 100000 in
theorem contract (F : Stop.Interp) (H : Type) (enc : TypeId × Value → H) (W : World) (base : Nat) (args : Array Value) (ds gs : List (DataW H)) (before : List MemPlace) (hF : F.told.answers W.tape)
    (hval0 : ∀ (j : Nat) t v, Tryf.f7.params[j]? = some t → args[j]? = some v → Value.okWide Tryf.prog W .any base t v)
    (hW : DataW.Whole enc Tryf.prog Tryf.f7.params.toList Rows.fnAppendGrownSpec.vars false W args.toList ds gs before) (hL : laidMetH Tryf.prog Rows.fnAppendGrownRow.laid W) :
    Calls Tryf.prog 7 args W fun e W' => ∃ v, e = .returned v ∧ ((OpenSpec.ofChange Rows.fnAppendGrownSpec).at F.told).post enc Tryf.prog Tryf.f7 false true false false W args v W' := by
  have hval : ∀ (j : Nat) t v, Tryf.f7.params[j]? = some t → args[j]? = some v → Value.okWide Tryf.prog W .any base t v := hval0
  have hW' := hW
  obtain ⟨p, q, hA0, hV, rfl, hfz, hnd⟩ := hW
  have hA : DataW.TrodAll enc Tryf.prog W 0 (fun _ => true) true Tryf.f7.params.toList args.toList ds p := hA0
  rw [Tryf.params7] at hA hval
  obtain ⟨v0, vs0, d0, ds0, p0, q0, hargs, rfl, rfl, h0, r0⟩ := trodAll_cons hA
  obtain ⟨v1, vs1, d1, ds1, p1, q1, rfl, rfl, rfl, h1, r1⟩ := trodAll_cons r0
  obtain ⟨v2, vs2, d2, ds2, p2, q2, rfl, rfl, rfl, h2, r2⟩ := trodAll_cons r1
  obtain ⟨rfl, rfl, rfl⟩ := trodAll_nil r2
  obtain rfl : args = #[v0, v1, v2] := by cases args; simp_all
  obtain ⟨rfl, rfl⟩ := trodVars_none hV
  have k0 := h0
  have lt0 : ∀ x ∈ p0, x.block < W.heap.size := by obtain ⟨m, hm⟩ := k0; exact DataW.trod_lt m _ _ _ hm
  obtain ⟨hh0, rfl, w0⟩ := openHash (hval 0 24 v0 rfl rfl) h0
  have k1 := h1
  have lt1 : ∀ x ∈ p1, x.block < W.heap.size := by obtain ⟨m, hm⟩ := k1; exact DataW.trod_lt m _ _ _ hm
  obtain ⟨a1, rfl, hd1, hp1, w1⟩ := open_int Tryf.underlying27 (hval 1 27 v1 rfl rfl) h1
  have k2 := h2
  have lt2 : ∀ x ∈ p2, x.block < W.heap.size := by obtain ⟨m, hm⟩ := k2; exact DataW.trod_lt m _ _ _ hm
  obtain ⟨L2, w2⟩ := openHashes (hval 2 25 v2 rfl rfl) h2
  refine (walk F.told W hF hh0 w0 a1 (bound_u64 w1) v2 L2 w2 (laidIs_of hL)).mono fun e W' ⟨he, bel⟩ => ?_
  subst he
  exact ⟨_, rfl, _, _, _, [], _, [], hW', trodAll_mk1 (shut_bool Tryf.underlying4 _), (trodAll_cons_mk (Below.trod laidOut (by kernel_rfl) (of_decide_eq_true (by kernel_rfl)) k0 bel lt0) (trodAll_cons_mk (Below.trod laidOut (by kernel_rfl) (of_decide_eq_true (by kernel_rfl)) k1 bel lt1) (trodAll_cons_mk (Below.trod laidOut (by kernel_rfl) (of_decide_eq_true (by kernel_rfl)) k2 bel lt2) trodAll_mk0))), rfl, bel.frame _, fun h => by cases h⟩
set_option maxRecDepth 100000 in
theorem lifted (os : Os) (started : os.Started) (H : Type) (enc : TypeId × Value → H) :
    ReturnsInTold none {} Tryf.checked os 7 .any Input.okWide ((OpenSpec.ofChange Rows.fnAppendGrownSpec).preRow enc Tryf.prog Tryf.f7 Rows.fnAppendGrownRow.domain false Rows.fnAppendGrownRow.laid) (fun F => ((OpenSpec.ofChange Rows.fnAppendGrownSpec).at F).post enc Tryf.prog Tryf.f7 false true false false) (aloneAtReturn Tryf.prog) nothingAlways := by
  obtain ⟨places, hx⟩ := reads os enc
  refine returnsInTold_of_row (C := Tryf.checked) (s := OpenSpec.ofChange Rows.fnAppendGrownSpec) mayEnter own started (by kernel_rfl) Tryf.func7
    (OpenSpec.witness_stopped_at (enc := enc) (C := Tryf.checked) false (laidWorld os) #[.agg #[.int .u32 0, .int .u32 0, .int .u32 0], .int .u64 0, .slice none 0 0] rfl (by kernel_rfl) (by kernel_rfl) (by kernel_rfl)
      (OpenSpec.preRow_of_cond 8 hx (by kernel_rfl) (fun k hk => by cases hk) (by kernel_rfl) (laid_met os #[.agg #[.int .u32 0, .int .u32 0, .int .u32 0], .int .u64 0, .slice none 0 0]))) ?_
  intro F W base args ds gs before _ hF hval hW _ _ _ hL _
  exact contract F H enc W base args ds gs before hF hval hW hL
theorem proved : Rows.FnAppendGrownToldSaid :=
  Claim7.holds_of_told_tied_any_at .later 7 Tryf.f7 "fmt.errorf" [] [] _ _ _ _ _ (by kernel_rfl) rfl rfl rfl laidOut (by kernel_rfl) rfl ⟨rfl, rfl, rfl, rfl, rfl, rfl, rfl⟩ rfl rfl (by kernel_rfl) (by kernel_rfl) Tryf.func7 (by kernel_rfl)
    (of_decide_eq_true (by kernel_rfl)) (by unfold Func.isWrapper; first | (rw [if_pos (by decide +kernel)]; kernel_rfl) | (rw [if_neg (by decide +kernel)]; exact ⟨rfl, rfl⟩)) stopsAre.symm rfl stopKnobs.symm (by kernel_rfl)
    (by kernel_rfl) (by kernel_rfl) (by kernel_rfl) (by kernel_rfl) (by kernel_rfl) (by kernel_rfl) (by kernel_rfl) (by kernel_rfl) (by kernel_rfl) rfl (by kernel_rfl) rfl rfl
    rfl rfl
    rfl mainIs (by kernel_rfl) (by kernel_rfl) (by decide) (by kernel_rfl) fnAppendGrown_row_tie
    (OpenClaim.moreEntering_of mayEnter (by kernel_rfl) (by kernel_rfl) (by kernel_rfl) (by kernel_rfl) (by kernel_rfl) (by kernel_rfl) (by kernel_rfl) liftsFinal.symm make)
    ⟨_, WideRow.started_initial, quiet _⟩
    (fun os started _ H enc _ => lifted os started H enc)
end Go.Proofs.YtpdmmmcelkinjaaFmt.fnAppendGrown
