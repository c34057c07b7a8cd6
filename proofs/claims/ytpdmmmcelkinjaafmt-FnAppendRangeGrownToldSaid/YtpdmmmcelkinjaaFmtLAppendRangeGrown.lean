/- Each node that is told as ranges are merged is a perfect tree of leaves of both, with its hash. -/
import Derived.Deep.DeepCutAuto
import Derived.Test.YtpdmmmcelkinjaaFmtImplAR
import Derived.Test.YtpdmmmcelkinjaaFmtAll
import Derived.Test.YtpdmmmcelkinjaaFmtNode
import Derived.Test.YtpdmmmcelkinjaaFmtPieceH
import Derived.Test.YtpdmmmcelkinjaaFmtTimes
import Derived.Test.YtpdmmmcelkinjaaFmtOpen
namespace Go.Proofs.YtpdmmmcelkinjaaFmt.fnAppendRangeGrown
open Go.ChangeShapes Go.WideShapes Go.ChangeAt Go.RowKit
set_option maxRecDepth 100000
theorem lv_left (P Q : List (List Nat)) (b : Nat) : ∀ k (hk : k < P.length), Pl.lv (P ++ Q) b (b + k) = P[k] := fun k hk => by
  unfold Pl.lv Pl.atL
  rw [Nat.add_sub_cancel_left, List.getD_eq_getElem?_getD, List.getElem?_append_left hk, List.getElem?_eq_getElem hk]
  rfl
theorem lv_right (P Q : List (List Nat)) (b : Nat) : ∀ k (hk : k < Q.length), Pl.lv (P ++ Q) b (b + P.length + k) = Q[k] := fun k hk => by
  unfold Pl.lv Pl.atL
  rw [show b + P.length + k - b = P.length + k by omega, List.getD_eq_getElem?_getD, List.getElem?_append_right (by omega), Nat.add_sub_cancel_left, List.getElem?_eq_getElem hk]
  rfl
theorem lv_own (P : List (List Nat)) (b : Nat) : ∀ k (hk : k < P.length), Pl.lv P b (b + k) = P[k] := fun k hk => by
  unfold Pl.lv Pl.atL
  rw [Nat.add_sub_cancel_left, List.getD_eq_getElem?_getD, List.getElem?_eq_getElem hk]
  rfl
abbrev SG (w : World) (g3 base nG : Nat) (x1 x2 x3 : Value) (A6 : Option Addr) (c6 : Nat) (G : List SeenN) (W0 w' : World) : Prop := w'.cell? ⟨w.heap.size, 0, none⟩ = some x1 ∧ w'.cell? ⟨w.heap.size, 1, none⟩ = some x2 ∧ w'.cell? ⟨w.heap.size, 2, none⟩ = some x3 ∧ w'.cell? ⟨g3, 5, none⟩ = some (.slice A6 nG c6) ∧ SeenB w' base (.slice A6 nG c6) G ∧ Below W0.heap.size W0 w'
theorem keepG {w W W0 w' : World} {g3 base nG : Nat} {x1 x2 x3 : Value} {A6 : Option Addr} {c6 : Nat} {G : List SeenN} (hb : Below W.heap.size W w') (h : SG w g3 base nG x1 x2 x3 A6 c6 G W0 W) : SG w g3 base nG x1 x2 x3 A6 c6 G W0 w' :=
  have up : ∀ {p : Addr} {v : Value}, W.cell? p = some v → w'.cell? p = some v := fun {p} {_} h => (hb.cell (World.block_lt_of_cell? W p h)).trans h
  ⟨up h.1, up h.2.1, up h.2.2.1, up h.2.2.2.1, h.2.2.2.2.1.below hb, h.2.2.2.2.2.trans (hb.mono h.2.2.2.2.2.size)⟩
set_option maxHeartbeats 8000000 in
theorem main_eq (F : Stop.Interp) (h : Pl.HF) (ok : h.ok) (b : Nat) (Av Aq : Option Addr) (cv cq : Nat) (P Q : List (List Nat)) (w : World) (hF : F.answers w.tape) (hT : Tab w) (hv : HashesR w (.slice Av P.length cv) P) (hq : HashesR w (.slice Aq Q.length cq) Q) (HFP : Hid (∀ W, Below w.heap.size w W → Calls Tryf.prog 14 #[.slice Av P.length cv] W fun e w' => e = .returned (.bool true) ∧ W = w')) (HFQ : Hid (∀ W, Below w.heap.size w W → Calls Tryf.prog 14 #[.slice Aq Q.length cq] W fun e w' => e = .returned (.bool true) ∧ W = w')) (hb : b ≤ 1152921504606846976) (hn : P.length ≤ 100) (hm : Q.length ≤ 100) (h2 : ∀ x ∈ P, x.length = 2) (h3 : ∀ x ∈ Q, x.length = 2) (HEP : P.length ≠ 0 → Hid (∀ W, Below w.heap.size w W → Calls Tryf.prog 15 #[.slice Av P.length cv] W fun e w' => e = .returned (.bool true) ∧ W = w')) (HEQ : Q.length ≠ 0 → Hid (∀ W, Below w.heap.size w W → Calls Tryf.prog 15 #[.slice Aq Q.length cq] W fun e w' => e = .returned (.bool true) ∧ W = w'))  :
    Calls Tryf.prog 11 #[hashV h, .int .u64 (b : Int), .slice Av P.length cv, .slice Aq Q.length cq] w fun e w' => e = .returned (.bool true) ∧ Below w.heap.size w w' := by
  have HB := Lib.hid (fun C => (Below.refl w.heap.size w).alloc (Nat.le_refl _) (.cells C 24))
  obtain ⟨z, hz⟩ : ∃ z, z = b + P.length := ⟨_, rfl⟩
  obtain ⟨e, he⟩ : ∃ e, e = z + Q.length := ⟨_, rfl⟩
  have HV := Lib.hid hv
  have HQ := Lib.hid hq
  have HT := Lib.hid hT
  have HF := Lib.hid hF
  have HOK := Lib.hid ok
  have HAR := Lib.hid (fun W (hW : Below w.heap.size w W) => ar_d F h ok (Pl.lv (P ++ Q) b) b z e (.slice Av P.length cv) (.slice Aq Q.length cq) P Q W hz he (lv_left P Q b) (fun k hk => by rw [hz]; exact lv_right P Q b k hk) (ans_below hF hW) (hv.below hW) (hq.below hW) h2 h3 (by omega) (hT.below hW))
  have HL := Lib.hid (show P.length + Q.length ≤ 200 ∧ P.length ≤ 100 ∧ (P ++ Q).length = P.length + Q.length from ⟨by omega, by omega, by simp⟩)
  have HZE := Lib.hid (show z = b + P.length ∧ e = z + Q.length ∧ b ≤ 1152921504606846976 ∧ e ≤ 1152921504606847176 ∧ b ≤ z ∧ z ≤ e ∧ e - b ≤ 200 from ⟨hz, he, hb, by omega, by omega, by omega, by omega⟩)
  have hb1 : (b : Int) ≤ 1152921504606846976 := by omega
  have e1 : IntKind.u64.wrap ((P.length : Nat) : Int) = ((P.length : Nat) : Int) := wrapN _ (by omega)
  have e2 : IntKind.u64.wrap ((b : Int) + ((P.length : Nat) : Int)) = (z : Int) := by have := wrapN z (by omega); rw [← this]; congr 1; omega
  clear hv hq hT hF ok h2 h3 hb hz he
  generalize hnn : P.length = n at *
  generalize hmm : Q.length = m at *
  have HNN := Lib.hid hnn
  have HMM := Lib.hid hmm
  clear hnn hmm
  have HNB := Lib.hid hn
  have HMB := Lib.hid hm
  have hn1 : (n : Int) ≤ 100 := by omega
  have hm1 : (m : Int) ≤ 100 := by omega
  clear hn hm
  obtain ⟨Ah, Bh, Ch⟩ := h
  unfold hashV
  go_enter Tryf.func11, Tryf.ntmps11
  go_wp2_with fail
  refine (HFP.out _ (HB.out _)).mono ?_; rintro e w' ⟨rfl, rfl⟩
  go_wp2_with fail
  refine (HFQ.out _ (HB.out _)).mono ?_; rintro e w' ⟨rfl, rfl⟩
  go_upto_region 3 with fail
  go_cut [57] (fun c wx => c = .bool false ∧ wx = w.alloc (.cells #[.int .u32 (Ah : Int), .int .u32 (Bh : Int), .int .u32 (Ch : Int)] 24))
  case first =>
    by_cases p0 : n = 0
    · by_cases q0 : m = 0
      · clear HEP HEQ hn1 hm1
        subst p0
        subst q0
        go_wp2_with fail
        go_meet
        exact ⟨by simp <;> omega, rfl⟩
      · have HE2 := HEQ q0
        have zq1 : (0 : Int) < (m : Int) := by omega
        clear HEP HEQ
        subst p0
        clear q0
        go_wp2_with fail
        refine (HE2.out _ (HB.out _)).mono ?_; rintro e w' ⟨rfl, rfl⟩
        go_wp2_with fail
        go_meet
        exact ⟨by simp <;> omega, rfl⟩
    · by_cases q0 : m = 0
      · have HE1 := HEP p0
        have zp1 : (0 : Int) < (n : Int) := by omega
        clear HEP HEQ
        clear p0
        subst q0
        go_wp2_with fail
        refine (HE1.out _ (HB.out _)).mono ?_; rintro e w' ⟨rfl, rfl⟩
        go_wp2_with fail
        go_meet
        exact ⟨by simp <;> omega, rfl⟩
      · have HE1 := HEP p0
        have zp1 : (0 : Int) < (n : Int) := by omega
        have HE2 := HEQ q0
        have zq1 : (0 : Int) < (m : Int) := by omega
        clear HEP HEQ
        clear p0
        clear q0
        go_wp2_with fail
        refine (HE1.out _ (HB.out _)).mono ?_; rintro e w' ⟨rfl, rfl⟩
        go_wp2_with fail
        refine (HE2.out _ (HB.out _)).mono ?_; rintro e w' ⟨rfl, rfl⟩
        go_wp2_with fail
        go_meet
        exact ⟨by simp <;> omega, rfl⟩
  case rest =>
    obtain ⟨rfl, rfl⟩ := hcut
    clear HEP HEQ HFP HFQ hn1 hm1
    go_wp2_with fail
    refine (HAR.out _ (HB.out _)).mono ?_; rintro r w3 ⟨A2, Ar, A6, A7, c2, nr, cr, c6, c7, nH, nG, nE, kb, H, R, G, E, rfl, HEF, HK, hb3⟩
    have HKH : Hid (Blk w3 w.heap.size 24 #[.int .u32 (Ah : Int), .int .u32 (Bh : Int), .int .u32 (Ch : Int)]) := Lib.hid ((Blk.new w _ _).below' hb3)
    have HB3 := Lib.hid ((HB.out #[.int .u32 (Ah : Int), .int .u32 (Bh : Int), .int .u32 (Ch : Int)]).trans (hb3.mono (HB.out _).size))
    clear hb3 HAR
    obtain rfl : nG = G.length := HEF.out.2.2.2.2.2.2.2.1
    have HGG := Lib.hid HEF.out.2.2.2.1
    have BA : Below w3.heap.size w3 (w3.alloc (.cells #[.int .u64 (b : Int), .int .u64 (e : Int), .slice A2 nH c2, .slice Ar nr cr, .bool kb, .slice A6 G.length c6, .slice A7 nE c7] 31)) := (Below.refl _ _).alloc (Nat.le_refl _) _
    have HKR := Lib.hid (Blk.new w3 31 #[.int .u64 (b : Int), .int .u64 (e : Int), .slice A2 nH c2, .slice Ar nr cr, .bool kb, .slice A6 G.length c6, .slice A7 nE c7])
    have HSG := Lib.hid (HK.out.2.2.1.below BA)
    have HKH4 := Lib.hid (HKH.out.below' BA)
    have HA0 := AllR.start (W0 := w) (w := w3.alloc (.cells #[.int .u64 (b : Int), .int .u64 (e : Int), .slice A2 nH c2, .slice Ar nr cr, .bool kb, .slice A6 G.length c6, .slice A7 nE c7] 31)) (HB3.out.trans (BA.mono HB3.out.size)) (HB3.out.trans (BA.mono HB3.out.size)).size
    rw [World.size_alloc] at HA0
    have HA0' := Lib.hid HA0
    clear HA0 BA HK HEF
    generalize (w.alloc (.cells #[.int .u32 (Ah : Int), .int .u32 (Bh : Int), .int .u32 (Ch : Int)] 24)).heap.size = gb at HSG
    go_wp2_with (first
      | (at_builtin
         refine wpList_append_all rfl (.tmp 72) (.tmp 73) rfl (w3.heap.size + 1) _ [] P HA0'.out rfl Av n cv rfl HV.out (by have := HL.out; have := HNN.out; simp; omega) ?_
         intro A5 n5 c5 w5 hn5 hA5 hb5
         rw [List.nil_append] at hn5 hA5
         have HN5 := Lib.hid hn5
         have HA5 := Lib.hid hA5
         have HB5 := Lib.hid hb5
         clear hn5 hA5 hb5)
      | (at_builtin
         refine wpList_append_all rfl (.tmp 74) (.tmp 75) rfl (w3.heap.size + 1) _ P Q HA5.out rfl Aq m cq rfl HQ.out (by have := HL.out; have := HNN.out; have := HMM.out; omega) ?_
         intro A8 n8 c8 W0 hn8 hA8 hb8
         have HN8 := Lib.hid hn8
         have HA8 := Lib.hid hA8
         have HB8 := Lib.hid hb8
         clear hn8 hA8 hb8)
      | fail)
    have HKH8 := Lib.hid (((HKH4.out.alloc (.cells #[] 28)).below HB5.out (by have := HKH.out.lt; omega)).below HB8.out (by have := HKH.out.lt; omega))
    have HKR8 := Lib.hid (((HKR.out.alloc (.cells #[] 28)).below HB5.out (by omega)).below HB8.out (by omega))
    have BW := (((Below.refl (w3.heap.size + 1) (w3.alloc (.cells #[.int .u64 (b : Int), .int .u64 (e : Int), .slice A2 nH c2, .slice Ar nr cr, .bool kb, .slice A6 G.length c6, .slice A7 nE c7] 31))).alloc (by simp) (.cells #[] 28)).trans HB5.out).trans HB8.out
    have BW2 : Below (w3.alloc (.cells #[.int .u64 (b : Int), .int .u64 (e : Int), .slice A2 nH c2, .slice Ar nr cr, .bool kb, .slice A6 G.length c6, .slice A7 nE c7] 31)).heap.size (w3.alloc (.cells #[.int .u64 (b : Int), .int .u64 (e : Int), .slice A2 nH c2, .slice Ar nr cr, .bool kb, .slice A6 G.length c6, .slice A7 nE c7] 31)) W0 := by rw [World.size_alloc]; exact BW
    have HSG8 := Lib.hid (HSG.out.below BW2)
    have HB4 := Lib.hid HA8.out.1
    have HAH := Lib.hid HA8.out.hashes
    clear BW BW2 HKR HKH4 HSG HA0' HB5 HN5 HA5 HB8 HA8
    have HN8' : Hid (n8 = n + m) := Lib.hid (by rw [HN8.out, HL.out.2.2])
    have HCT : Hid (∀ l i, Pl.Straddle b z e l i → G.count (l, i, Pl.gv ⟨Ah, Bh, Ch⟩ (Pl.lv (P ++ Q) b) (l, i)) = 1) := Lib.hid (fun l i hs => by
      rw [HGG.out, Pl.toldR_count _ _ HZE.out.2.2.2.2.1 HZE.out.2.2.2.2.2.1 (by have := HZE.out; omega)]
      exact if_pos hs)
    have HTO : Hid (G.length = Pl.strs b z e 9) := Lib.hid (by
      rw [HGG.out]
      exact Pl.strs_len _ _ HZE.out.2.2.2.2.1 HZE.out.2.2.2.2.2.1 (by have := HZE.out; omega) (by have := HZE.out; omega))
    have HGL : Hid (G.length ≤ 9) := Lib.hid (by rw [HTO.out]; exact Pl.strs_le _ _ _ 9)
    have t1 : IntKind.u64.wrap ((n8 : Nat) : Int) = ((n8 : Nat) : Int) := wrapN _ (by have := HN8'.out; have := HL.out; omega)
    have t2 : IntKind.u64.wrap ((b : Int) + ((n8 : Nat) : Int)) = (e : Int) := by
      have h1 := wrapN e (by have := HZE.out; omega)
      rw [← h1]; congr 1
      have := HZE.out; have := HN8'.out; omega
    have HMM0 := Lib.hid (fun a y (ha : a < y) (hy : y ≤ (P ++ Q).length) => mth_mid ⟨Ah, Bh, Ch⟩ HOK.out W0 A8 n8 c8 a y (P ++ Q) HAH.out ha hy (by have := HL.out; omega))
    unfold hashV at HMM0
    simp only [] at HMM0
    go_loopw [13, 14, 15, 16, 17] (fun mv lv _ _ _ wr => ∃ l mm : Nat, 1 ≤ l ∧ l ≤ 9 ∧ Hid (mm = Pl.strs b z e l) ∧ mv = .int .i64 (mm : Int) ∧ lv = .int .u64 (l : Int) ∧ Below W0.heap.size W0 wr) (fun _ lv _ _ _ _ => 9 - (intOf lv).toNat)
    case atStart => exact ⟨1, 0, Nat.le_refl _, by omega, Lib.hid (Pl.strs_one b z e).symm, rfl, rfl, Below.refl _ _⟩
    case round =>
      obtain ⟨l, mm, hl0, hl, HMT, rfl, rfl, hB⟩ := hrel
      by_cases hl8 : l < 9
      · have hl1 : (l : Int) < 9 := by omega
        have hmin : min l 64 = l := by omega
        obtain ⟨wd, hwd⟩ : ∃ wd, wd = 2 ^ l := ⟨_, rfl⟩
        have HWD := Lib.hid hwd
        have HW0 := Lib.hid (show 0 < wd by rw [hwd]; exact Nat.two_pow_pos l)
        obtain ⟨q0, hq0⟩ : ∃ q, q = b / wd := ⟨_, rfl⟩
        obtain ⟨q1, hq1⟩ : ∃ q, q = e / wd := ⟨_, rfl⟩
        have HQ0 := Lib.hid hq0
        have HQ1 := Lib.hid hq1
        have e3 : (2 : Int) ^ l = (wd : Int) := by rw [hwd]; simp
        have e4 : (b : Int) / (wd : Int) = (q0 : Int) := by rw [hq0]; simp
        have HQQ : Hid (q0 ≤ q1) := Lib.hid (by rw [hq0, hq1]; exact Nat.div_le_div_right (by have := HZE.out; omega))
        have HTN : Hid (Pl.strs b z e (l + 1) = mm + Pl.sat b z e l q1) := Lib.hid (by rw [Pl.sat_end, HMT.out, hq1, hwd])
        have HST : Hid (Pl.sat b z e l q0 = 0) := Lib.hid (by rw [hq0, hwd]; exact Pl.sat_start e l HZE.out.2.2.2.2.1)
        have HMB : Hid (mm ≤ 9) := Lib.hid (by rw [HMT.out]; exact Nat.le_trans (Pl.strs_le b z e l) hl)
        clear hwd hq0 hq1
        go_wp2_with fail
        obtain ⟨wo, rfl⟩ : ∃ wo : World, wo = wr := ⟨_, rfl⟩
        go_loopw [13, 15, 16, 17] (fun mv iv _ _ wi => ∃ i c : Nat, q0 ≤ i ∧ i ≤ q1 ∧ Hid (c = mm + Pl.sat b z e l i) ∧ mv = .int .i64 (c : Int) ∧ iv = .int .u64 (i : Int) ∧ Below W0.heap.size W0 wi) (fun _ iv _ _ _ => q1 - (intOf iv).toNat)
        case atStart => exact ⟨q0, mm, Nat.le_refl _, HQQ.out, Lib.hid (by rw [HST.out]; rfl), rfl, rfl, hB⟩
        case round =>
          obtain ⟨i, c, hi0, hi1, HC, rfl, rfl, hW⟩ := hrel
          obtain ⟨z0, hz0⟩ : ∃ z, z = i * wd := ⟨_, rfl⟩
          obtain ⟨z1, hz1⟩ : ∃ z, z = (i + 1) * wd := ⟨_, rfl⟩
          have hzz : z1 = z0 + wd := by rw [hz0, hz1]; exact Nat.succ_mul _ _
          have hqe : q1 * wd ≤ e := by rw [HQ1.out]; exact Nat.div_mul_le_self _ _
          have hze : z0 ≤ e := Nat.le_trans (by rw [hz0]; exact Nat.mul_le_mul_right _ hi1) hqe
          have hwd2 : wd ≤ 256 := by rw [HWD.out]; exact Nat.pow_le_pow_right (by omega) (show l ≤ 8 by omega)
          have hie : i ≤ e := Nat.le_trans (Nat.le_mul_of_pos_right i HW0.out) (by rw [← hz0]; exact hze)
          obtain ⟨i1, hi1'⟩ : ∃ j, j = i + 1 := ⟨_, rfl⟩
          have f1 : IntKind.u64.wrap ((i : Int) + 1) = (i1 : Int) := by have := wrapN (i + 1) (by have := HZE.out.2.2.2.1; omega); rw [hi1']; simpa using this
          have f2 : IntKind.u64.wrap ((i : Int) * (wd : Int)) = (z0 : Int) := by have := wrapN z0 (by have := HZE.out.2.2.2.1; omega); rw [← this, hz0]; simp
          have f3 : IntKind.u64.wrap ((i1 : Int) * (wd : Int)) = (z1 : Int) := by have := wrapN z1 (by have := HZE.out.2.2.2.1; omega); rw [← this, hz1, hi1']; simp
          have HI1 := Lib.hid hi1'
          have HZ := Lib.hid (show z0 = i * wd ∧ z1 = (i + 1) * wd ∧ z1 = z0 + wd ∧ z0 ≤ e from ⟨hz0, hz1, hzz, hze⟩)
          have HIQ : Hid (i < q1 ↔ z1 ≤ e) := Lib.hid (by
            rw [hz1, HQ1.out]
            exact (Nat.le_div_iff_mul_le HW0.out))
          have HSI : Hid (Pl.Straddle b z e l i ↔ b ≤ z0 ∧ z1 ≤ e ∧ z0 < z ∧ z < z1) := Lib.hid (by unfold Pl.Straddle; rw [← HWD.out, ← hz0, ← hz1])
          have HNO : Hid (¬ (b ≤ z0 ∧ z1 ≤ e ∧ z0 < z ∧ z < z1) → c = mm + Pl.sat b z e l i1) := Lib.hid (fun hn => by rw [HI1.out, Pl.sat_no (fun h => hn (HSI.out.1 h))]; exact HC.out)
          have HYE : Hid ((b ≤ z0 ∧ z1 ≤ e ∧ z0 < z ∧ z < z1) → c + 1 = mm + Pl.sat b z e l i1) := Lib.hid (fun hy => by rw [HI1.out, Pl.sat_yes (HSI.out.2 hy), HC.out]; omega)
          clear hz0 hz1 hzz hqe hze hwd2 hie hi1'
          by_cases hlt : z1 ≤ e
          · have g1 : (z1 : Int) ≤ (e : Int) := by omega
            have hiq := HIQ.out.2 hlt
            by_cases hzb : z0 < b
            · have g2 : (z0 : Int) < (b : Int) := by omega
              have HCN : Hid (c = mm + Pl.sat b z e l i1) := Lib.hid (HNO.out (by omega))
              go_wp2_with fail
              go_roundw
              case rel => exact ⟨i1, c, by have := HI1.out; omega, by have := HI1.out; omega, HCN, rfl, by go_num, hW⟩
              case measure => have h9 := HI1.out; simp [intOf] <;> omega
            · have g2 : ¬ (z0 : Int) < (b : Int) := by omega
              by_cases hzm : z1 ≤ z
              · have g3 : (z1 : Int) ≤ (z : Int) := by omega
                have HCN : Hid (c = mm + Pl.sat b z e l i1) := Lib.hid (HNO.out (by omega))
                go_wp2_with fail
                go_roundw
                case rel => exact ⟨i1, c, by have := HI1.out; omega, by have := HI1.out; omega, HCN, rfl, by go_num, hW⟩
                case measure => have h9 := HI1.out; simp [intOf] <;> omega
              · have g3 : ¬ (z1 : Int) ≤ (z : Int) := by omega
                by_cases hzn : z ≤ z0
                · have g4 : (z : Int) ≤ (z0 : Int) := by omega
                  have HCN : Hid (c = mm + Pl.sat b z e l i1) := Lib.hid (HNO.out (by omega))
                  go_wp2_with fail
                  go_roundw
                  case rel => exact ⟨i1, c, by have := HI1.out; omega, by have := HI1.out; omega, HCN, rfl, by go_num, hW⟩
                  case measure => have h9 := HI1.out; simp [intOf] <;> omega
                · have g4 : ¬ (z : Int) ≤ (z0 : Int) := by omega
                  have hst : b ≤ z0 ∧ z1 ≤ e ∧ z0 < z ∧ z < z1 := ⟨by omega, hlt, by omega, by omega⟩
                  have HCN := Lib.hid (HYE.out hst)
                  obtain ⟨za, hza⟩ : ∃ z, z = z0 - b := ⟨_, rfl⟩
                  obtain ⟨zz, hzz⟩ : ∃ z, z = z1 - b := ⟨_, rfl⟩
                  have f4 : IntKind.u64.wrap ((z0 : Int) - (b : Int)) = (za : Int) := by have h1 := wrapN za (by have := HZE.out.2.2.2.1; have := HZ.out.2.2.2; omega); rw [← h1]; congr 1; omega
                  have f5 : IntKind.u64.wrap ((z1 : Int) - (b : Int)) = (zz : Int) := by have h1 := wrapN zz (by have := HZE.out.2.2.2.1; omega); rw [← h1]; congr 1; have := HZ.out.2.2.1; omega
                  obtain ⟨v1, r1, ⟨Bm, nm, cm, ev1⟩, hM⟩ := HMM0.out za zz (by have := HZ.out.2.2.1; have := HW0.out; omega) (by have := HZE.out; have := HL.out; omega)
                  have HGV : Pl.gv ⟨Ah, Bh, Ch⟩ (Pl.lv (P ++ Q) b) (l, i) = Pl.mr ⟨Ah, Bh, Ch⟩ (Pl.atL (P ++ Q)) za (zz - za) := by
                    rw [gv_lv _ _ _ _ _ (by rw [← HWD.out, ← HZ.out.1]; omega), ← HWD.out, ← HZ.out.1, ← hza, show zz - za = wd by have := HZ.out.2.2.1; omega]
                  rw [← HGV] at hM
                  have HCNT : Hid (G.count (l, i, Pl.gv ⟨Ah, Bh, Ch⟩ (Pl.lv (P ++ Q) b) (l, i)) = 1) := Lib.hid (HCT.out l i (HSI.out.2 hst))
                  have hcb : c + 1 ≤ 10 := by
                    have h1 := HCN.out
                    have h2 := Pl.sat_le b z e l i1
                    have h3 := HMB.out
                    omega
                  clear HGV hza hzz hst
                  generalize Pl.gv ⟨Ah, Bh, Ch⟩ (Pl.lv (P ++ Q) b) (l, i) = hh at *
                  have HMM := Lib.hid hM
                  subst ev1
                  clear hM
                  have BD := hW.drew
                  have KH := HKH8.out.below' BD
                  have KR := HKR8.out.below' BD
                  have S0 : SG w w3.heap.size gb G.length (.int .u32 (Ah : Int)) (.int .u32 (Bh : Int)) (.int .u32 (Ch : Int)) A6 c6 G W0 wr.drew := ⟨KH.cell 0, KH.cell 1, KH.cell 2, KR.cell 5, HSG8.out.below BD, BD⟩
                  have HTI := Lib.hid (fun W um (hS : SeenB W gb (.slice A6 G.length c6) G) (hum : BytesR W um hh) (hsl : ∃ A n c, um = .slice A n c) => show Calls Tryf.prog 24 #[.slice A6 G.length c6, .agg #[.int .u64 (l : Int), .int .u64 (i : Int), um]] W (fun r w' => r = .returned (.int .i64 1) ∧ Below W.heap.size W w') from by
                    obtain ⟨Au, nu, cu, rfl⟩ := hsl
                    exact (times_c G (.slice A6 G.length c6) gb l i Au nu cu hh W hS hum (by have := HGL.out; omega)).mono (fun r w' h => ⟨by rw [h.1, HCNT.out]; rfl, h.2⟩))
                  clear KH KR BD
                  go_wp2_with fail
                  go_region_held3 (fun w' => w'.cell? ⟨w.heap.size, 0, none⟩ = some (.int .u32 (Ah : Int)) ∧ w'.cell? ⟨w.heap.size, 1, none⟩ = some (.int .u32 (Bh : Int)) ∧ w'.cell? ⟨w.heap.size, 2, none⟩ = some (.int .u32 (Ch : Int)) ∧ w'.cell? ⟨w3.heap.size, 5, none⟩ = some (.slice A6 G.length c6) ∧ SeenB w' gb (.slice A6 G.length c6) G ∧ Below W0.heap.size W0 w')
                    (first | with_reducible assumption | with_reducible exact S0 | with_reducible exact keepG hbm (by with_reducible assumption) | with_reducible exact keepG hbt (by with_reducible assumption) | fail)
                    (first
                      | (go_at_call 18; refine (HMM.out _ (show SG w w3.heap.size gb G.length (.int .u32 (Ah : Int)) (.int .u32 (Bh : Int)) (.int .u32 (Ch : Int)) A6 c6 G W0 _ by with_reducible assumption).2.2.2.2.2).mono ?_; rintro e9 w9 ⟨um, rfl, hum, hbm, _⟩; obtain ⟨Au, nu, cu, rfl⟩ : ∃ A n c, um = .slice A n c := by obtain ⟨A, c, e, _⟩ := hum; exact ⟨A, _, c, e⟩)
                      | (go_at_call 24; refine (HTI.out _ _ (show SG w w3.heap.size gb G.length (.int .u32 (Ah : Int)) (.int .u32 (Bh : Int)) (.int .u32 (Ch : Int)) A6 c6 G W0 _ by with_reducible assumption).2.2.2.2.1 hum ⟨_, _, _, rfl⟩).mono ?_; rintro e9 w9 ⟨rfl, hbt⟩)
                      | fail)
                  all_goals
                    have hfin := (show SG w w3.heap.size gb G.length (.int .u32 (Ah : Int)) (.int .u32 (Bh : Int)) (.int .u32 (Ch : Int)) A6 c6 G W0 w9 by with_reducible assumption).2.2.2.2.2
                    go_wp2_with fail
                    go_roundw
                    case rel => exact ⟨i1, c + 1, by have := HI1.out; omega, by have := HI1.out; omega, HCN, by go_num, by go_num, hfin⟩
                    case measure => have h9 := HI1.out; simp [intOf] <;> omega
          · have g1 : ¬ (z1 : Int) ≤ (e : Int) := by omega
            have hiq : ¬ i < q1 := fun h => hlt (HIQ.out.1 h)
            obtain rfl : i = q1 := by omega
            go_wp2_with fail
            go_roundw
            case rel => exact ⟨l + 1, c, by omega, by omega, Lib.hid (by rw [HTN.out, HC.out]), rfl, by go_num, hW⟩
            case measure => simp [intOf] <;> omega
      · have hl1 : ¬ (l : Int) < 9 := by omega
        obtain rfl : l = 9 := by omega
        obtain rfl : mm = G.length := by rw [HMT.out, HTO.out]
        have k5 := (HKR8.out.below' hB).cell 5
        have BF := HB4.out.trans (hB.mono HB4.out.size)
        go_wp2_with fail
        refine (works_c _).mono ?_; rintro r w6 ⟨rfl, hb6⟩
        go_wp2_with fail
        go_ret
        exact ⟨by first | rfl | (simp <;> omega), BF.trans (hb6.mono BF.size)⟩
set_option maxHeartbeats 4000000 in
theorem walk (F : Stop.Interp) (w : World) (hF : F.answers w.tape) (h : Pl.HF) (ok : h.ok) (a1 : Int) (w1 : 0 ≤ a1 ∧ a1 < 18446744073709551616) (v : Value) (P : List (List Nat)) (hv : HashesR w v P) (u : Value) (Q : List (List Nat)) (hq : HashesR w u Q) (hT : LaidIs w) :
    Calls Tryf.prog 11 #[hashV h, .int .u64 a1, v, u] w fun e w' => e = .returned (.bool true) ∧ Below w.heap.size w w' := by
  obtain ⟨b, rfl⟩ := Int.eq_ofNat_of_zero_le w1.1
  have hbs : b < 18446744073709551616 := by omega
  clear w1
  have HB := Lib.hid (fun C => (Below.refl w.heap.size w).alloc (Nat.le_refl _) (.cells C 24))
  obtain ⟨Av, cv, ev, h9v⟩ := id hv
  clear h9v
  subst ev
  obtain ⟨Aq, cq, eq, h9q⟩ := id hq
  clear h9q
  subst eq
  by_cases g0 : ¬ Fits P
  case pos =>
    have HFx : Hid (∀ W, Below w.heap.size w W → Calls Tryf.prog 14 #[.slice Av P.length cv] W fun e w' => e = .returned (.bool false) ∧ W = w') := Lib.hid (fun W hb => (fits1_c (.slice Av P.length cv) P W (hv.below hb)).mono fun _ _ r => r.no g0)
    clear hbs hT hF hv hq ok g0
    obtain ⟨Ah, Bh, Ch⟩ := h
    unfold hashV
    go_enter Tryf.func11, Tryf.ntmps11
    go_wp2_with fail
    refine (HFx.out _ (HB.out _)).mono ?_; rintro e w' ⟨rfl, rfl⟩
    go_wp2_with fail
    go_ret
    exact ⟨rfl, HB.out _⟩
  have gfP : Fits P := Classical.not_not.1 g0
  clear g0
  have HFP : Hid (∀ W, Below w.heap.size w W → Calls Tryf.prog 14 #[.slice Av P.length cv] W fun e w' => e = .returned (.bool true) ∧ W = w') := Lib.hid (fun W hb => (fits1_c (.slice Av P.length cv) P W (hv.below hb)).mono fun _ _ r => r.yes gfP)
  by_cases g1 : ¬ Fits Q
  case pos =>
    have HFx : Hid (∀ W, Below w.heap.size w W → Calls Tryf.prog 14 #[.slice Aq Q.length cq] W fun e w' => e = .returned (.bool false) ∧ W = w') := Lib.hid (fun W hb => (fits1_c (.slice Aq Q.length cq) Q W (hq.below hb)).mono fun _ _ r => r.no g1)
    clear hbs hT hF hv hq ok g1 gfP
    obtain ⟨Ah, Bh, Ch⟩ := h
    unfold hashV
    go_enter Tryf.func11, Tryf.ntmps11
    go_wp2_with fail
    refine (HFP.out _ (HB.out _)).mono ?_; rintro e w' ⟨rfl, rfl⟩
    go_wp2_with fail
    refine (HFx.out _ (HB.out _)).mono ?_; rintro e w' ⟨rfl, rfl⟩
    go_wp2_with fail
    go_ret
    exact ⟨rfl, HB.out _⟩
  have gfQ : Fits Q := Classical.not_not.1 g1
  clear g1
  have HFQ : Hid (∀ W, Below w.heap.size w W → Calls Tryf.prog 14 #[.slice Aq Q.length cq] W fun e w' => e = .returned (.bool true) ∧ W = w') := Lib.hid (fun W hb => (fits1_c (.slice Aq Q.length cq) Q W (hq.below hb)).mono fun _ _ r => r.yes gfQ)
  by_cases g2 : (100 : Int) < (P.length : Int)
  case pos =>
    clear hbs hT hF hv hq ok gfP gfQ
    obtain ⟨Ah, Bh, Ch⟩ := h
    unfold hashV
    go_enter Tryf.func11, Tryf.ntmps11
    go_wp2_with fail
    refine (HFP.out _ (HB.out _)).mono ?_; rintro e w' ⟨rfl, rfl⟩
    go_wp2_with fail
    refine (HFQ.out _ (HB.out _)).mono ?_; rintro e w' ⟨rfl, rfl⟩
    go_wp2_with fail
    go_ret
    exact ⟨rfl, HB.out _⟩
  by_cases g3 : (100 : Int) < (Q.length : Int)
  case pos =>
    clear hbs hT hF hv hq ok gfP gfQ
    obtain ⟨Ah, Bh, Ch⟩ := h
    unfold hashV
    go_enter Tryf.func11, Tryf.ntmps11
    go_wp2_with fail
    refine (HFP.out _ (HB.out _)).mono ?_; rintro e w' ⟨rfl, rfl⟩
    go_wp2_with fail
    refine (HFQ.out _ (HB.out _)).mono ?_; rintro e w' ⟨rfl, rfl⟩
    go_wp2_with fail
    go_ret
    exact ⟨rfl, HB.out _⟩
  by_cases g4 : P.length ≠ 0 ∧ ¬ IsLeaves P
  case pos =>
    have HSx : Hid (∀ W, Below w.heap.size w W → Calls Tryf.prog 15 #[.slice Av P.length cv] W fun e w' => e = .returned (.bool false) ∧ W = w') := Lib.hid (fun W hb => (leaves_c (.slice Av P.length cv) P W (hv.below hb) gfP.1).mono fun _ _ r => r.no g4.2)
    have zp1 : (0 : Int) < (P.length : Int) := by have := g4.1; omega
    clear hbs hT hF hv hq ok gfP gfQ g4
    obtain ⟨Ah, Bh, Ch⟩ := h
    unfold hashV
    go_enter Tryf.func11, Tryf.ntmps11
    go_wp2_with fail
    refine (HFP.out _ (HB.out _)).mono ?_; rintro e w' ⟨rfl, rfl⟩
    go_wp2_with fail
    refine (HFQ.out _ (HB.out _)).mono ?_; rintro e w' ⟨rfl, rfl⟩
    go_wp2_with fail
    refine (HSx.out _ (HB.out _)).mono ?_; rintro e w' ⟨rfl, rfl⟩
    go_wp2_with fail
    go_ret
    exact ⟨rfl, HB.out _⟩
  have g4 : P.length = 0 ∨ IsLeaves P := by
    by_cases h0 : P.length = 0
    · exact .inl h0
    · exact .inr (Classical.not_not.1 fun hc => g4 ⟨h0, hc⟩)
  have h2 : ∀ x ∈ P, x.length = 2 := by
    rcases g4 with h0 | h1
    · rw [List.eq_nil_of_length_eq_zero h0]; intro x hx; cases hx
    · exact h1.1
  have HEP : P.length ≠ 0 → Hid (∀ W, Below w.heap.size w W → Calls Tryf.prog 15 #[.slice Av P.length cv] W fun e w' => e = .returned (.bool true) ∧ W = w') := fun h0 => Lib.hid (fun W hb => (leaves_c (.slice Av P.length cv) P W (hv.below hb) gfP.1).mono fun _ _ r => r.yes (g4.resolve_left h0))
  clear g4
  by_cases g5 : Q.length ≠ 0 ∧ ¬ IsLeaves Q
  case pos =>
    have HSx : Hid (∀ W, Below w.heap.size w W → Calls Tryf.prog 15 #[.slice Aq Q.length cq] W fun e w' => e = .returned (.bool false) ∧ W = w') := Lib.hid (fun W hb => (leaves_c (.slice Aq Q.length cq) Q W (hq.below hb) gfQ.1).mono fun _ _ r => r.no g5.2)
    have zq1 : (0 : Int) < (Q.length : Int) := by have := g5.1; omega
    by_cases p0 : P.length = 0
    case pos =>
      clear hbs hT hF hv hq ok gfP gfQ g5 HEP h2 g2
      generalize hnn : P.length = n at *
      subst p0
      clear hnn
      obtain ⟨Ah, Bh, Ch⟩ := h
      unfold hashV
      go_enter Tryf.func11, Tryf.ntmps11
      go_wp2_with fail
      refine (HFP.out _ (HB.out _)).mono ?_; rintro e w' ⟨rfl, rfl⟩
      go_wp2_with fail
      refine (HFQ.out _ (HB.out _)).mono ?_; rintro e w' ⟨rfl, rfl⟩
      go_wp2_with fail
      refine (HSx.out _ (HB.out _)).mono ?_; rintro e w' ⟨rfl, rfl⟩
      go_wp2_with fail
      go_ret
      exact ⟨rfl, HB.out _⟩
    have HE1 := HEP p0
    have zp1 : (0 : Int) < (P.length : Int) := by omega
    clear hbs hT hF hv hq ok gfP gfQ g5 HEP h2 p0
    obtain ⟨Ah, Bh, Ch⟩ := h
    unfold hashV
    go_enter Tryf.func11, Tryf.ntmps11
    go_wp2_with fail
    refine (HFP.out _ (HB.out _)).mono ?_; rintro e w' ⟨rfl, rfl⟩
    go_wp2_with fail
    refine (HFQ.out _ (HB.out _)).mono ?_; rintro e w' ⟨rfl, rfl⟩
    go_wp2_with fail
    refine (HE1.out _ (HB.out _)).mono ?_; rintro e w' ⟨rfl, rfl⟩
    go_wp2_with fail
    refine (HSx.out _ (HB.out _)).mono ?_; rintro e w' ⟨rfl, rfl⟩
    go_wp2_with fail
    go_ret
    exact ⟨rfl, HB.out _⟩
  have g5 : Q.length = 0 ∨ IsLeaves Q := by
    by_cases h0 : Q.length = 0
    · exact .inl h0
    · exact .inr (Classical.not_not.1 fun hc => g5 ⟨h0, hc⟩)
  have h3 : ∀ x ∈ Q, x.length = 2 := by
    rcases g5 with h0 | h1
    · rw [List.eq_nil_of_length_eq_zero h0]; intro x hx; cases hx
    · exact h1.1
  have HEQ : Q.length ≠ 0 → Hid (∀ W, Below w.heap.size w W → Calls Tryf.prog 15 #[.slice Aq Q.length cq] W fun e w' => e = .returned (.bool true) ∧ W = w') := fun h0 => Lib.hid (fun W hb => (leaves_c (.slice Aq Q.length cq) Q W (hq.below hb) gfQ.1).mono fun _ _ r => r.yes (g5.resolve_left h0))
  clear g5
  by_cases g6 : (1152921504606846976 : Int) < (b : Int)
  case pos =>
    clear hbs hT hF hv hq ok gfP gfQ h2 h3
    by_cases p0 : P.length = 0
    case pos =>
      clear HEP g2
      generalize hnn : P.length = n at *
      subst p0
      clear hnn
      by_cases q0 : Q.length = 0
      case pos =>
        clear HEQ g3
        generalize hmm : Q.length = m at *
        subst q0
        clear hmm
        obtain ⟨Ah, Bh, Ch⟩ := h
        unfold hashV
        go_enter Tryf.func11, Tryf.ntmps11
        go_wp2_with fail
        refine (HFP.out _ (HB.out _)).mono ?_; rintro e w' ⟨rfl, rfl⟩
        go_wp2_with fail
        refine (HFQ.out _ (HB.out _)).mono ?_; rintro e w' ⟨rfl, rfl⟩
        go_wp2_with fail
        go_ret
        exact ⟨rfl, HB.out _⟩
      have HE2 := HEQ q0
      have zq1 : (0 : Int) < (Q.length : Int) := by omega
      clear HEQ q0
      obtain ⟨Ah, Bh, Ch⟩ := h
      unfold hashV
      go_enter Tryf.func11, Tryf.ntmps11
      go_wp2_with fail
      refine (HFP.out _ (HB.out _)).mono ?_; rintro e w' ⟨rfl, rfl⟩
      go_wp2_with fail
      refine (HFQ.out _ (HB.out _)).mono ?_; rintro e w' ⟨rfl, rfl⟩
      go_wp2_with fail
      refine (HE2.out _ (HB.out _)).mono ?_; rintro e w' ⟨rfl, rfl⟩
      go_wp2_with fail
      go_ret
      exact ⟨rfl, HB.out _⟩
    have HE1 := HEP p0
    have zp1 : (0 : Int) < (P.length : Int) := by omega
    clear HEP p0
    by_cases q0 : Q.length = 0
    case pos =>
      clear HEQ g3
      generalize hmm : Q.length = m at *
      subst q0
      clear hmm
      obtain ⟨Ah, Bh, Ch⟩ := h
      unfold hashV
      go_enter Tryf.func11, Tryf.ntmps11
      go_wp2_with fail
      refine (HFP.out _ (HB.out _)).mono ?_; rintro e w' ⟨rfl, rfl⟩
      go_wp2_with fail
      refine (HFQ.out _ (HB.out _)).mono ?_; rintro e w' ⟨rfl, rfl⟩
      go_wp2_with fail
      refine (HE1.out _ (HB.out _)).mono ?_; rintro e w' ⟨rfl, rfl⟩
      go_wp2_with fail
      go_ret
      exact ⟨rfl, HB.out _⟩
    have HE2 := HEQ q0
    have zq1 : (0 : Int) < (Q.length : Int) := by omega
    clear HEQ q0
    obtain ⟨Ah, Bh, Ch⟩ := h
    unfold hashV
    go_enter Tryf.func11, Tryf.ntmps11
    go_wp2_with fail
    refine (HFP.out _ (HB.out _)).mono ?_; rintro e w' ⟨rfl, rfl⟩
    go_wp2_with fail
    refine (HFQ.out _ (HB.out _)).mono ?_; rintro e w' ⟨rfl, rfl⟩
    go_wp2_with fail
    refine (HE1.out _ (HB.out _)).mono ?_; rintro e w' ⟨rfl, rfl⟩
    go_wp2_with fail
    refine (HE2.out _ (HB.out _)).mono ?_; rintro e w' ⟨rfl, rfl⟩
    go_wp2_with fail
    go_ret
    exact ⟨rfl, HB.out _⟩
  exact main_eq F h ok b Av Aq cv cq P Q w hF hT hv hq HFP HFQ (by omega) (by omega) (by omega) h2 h3 HEP HEQ
theorem reads (os : Os) {H : Type} (enc : TypeId × Value → H) : ∃ places, DataW.whole enc Tryf.prog ((laidWorld os).forCall (fun _ _ => 0) ⟨#[], #[.agg #[.int .u32 0, .int .u32 0, .int .u32 0], .int .u64 0, .slice none 0 0, .slice none 0 0], []⟩).memory Tryf.f11.params.toList Rows.fnAppendRangeGrownSpec.vars false (#[.agg #[.int .u32 0, .int .u32 0, .int .u32 0], .int .u64 0, .slice none 0 0, .slice none 0 0] : Array Value).toList 8 = some ([.agg [.lit (.int .u32 0), .lit (.int .u32 0), .lit (.int .u32 0)], .lit (.int .u64 0), .nil, .nil], [], places) :=
  ⟨[], by kernel_rfl⟩
set_option maxRecDepth 100000 in
theorem contract (F : Stop.Interp) (H : Type) (enc : TypeId × Value → H) (W : World) (base : Nat) (args : Array Value) (ds gs : List (DataW H)) (before : List MemPlace) (hF : F.told.answers W.tape)
    (hval0 : ∀ (j : Nat) t v, Tryf.f11.params[j]? = some t → args[j]? = some v → Value.okWide Tryf.prog W .any base t v)
    (hW : DataW.Whole enc Tryf.prog Tryf.f11.params.toList Rows.fnAppendRangeGrownSpec.vars false W args.toList ds gs before) (hL : laidMetH Tryf.prog Rows.fnAppendRangeGrownRow.laid W) :
    Calls Tryf.prog 11 args W fun e W' => ∃ v, e = .returned v ∧ ((OpenSpec.ofChange Rows.fnAppendRangeGrownSpec).at F.told).post enc Tryf.prog Tryf.f11 false true false false W args v W' := by
  have hval : ∀ (j : Nat) t v, Tryf.f11.params[j]? = some t → args[j]? = some v → Value.okWide Tryf.prog W .any base t v := hval0
  have hW' := hW
  obtain ⟨p, q, hA0, hV, rfl, hfz, hnd⟩ := hW
  have hA : DataW.TrodAll enc Tryf.prog W 0 (fun _ => true) true Tryf.f11.params.toList args.toList ds p := hA0
  rw [Tryf.params11] at hA hval
  obtain ⟨v0, vs0, d0, ds0, p0, q0, hargs, rfl, rfl, h0, r0⟩ := trodAll_cons hA
  obtain ⟨v1, vs1, d1, ds1, p1, q1, rfl, rfl, rfl, h1, r1⟩ := trodAll_cons r0
  obtain ⟨v2, vs2, d2, ds2, p2, q2, rfl, rfl, rfl, h2, r2⟩ := trodAll_cons r1
  obtain ⟨v3, vs3, d3, ds3, p3, q3, rfl, rfl, rfl, h3, r3⟩ := trodAll_cons r2
  obtain ⟨rfl, rfl, rfl⟩ := trodAll_nil r3
  obtain rfl : args = #[v0, v1, v2, v3] := by cases args; simp_all
  obtain ⟨rfl, rfl⟩ := trodVars_none hV
  have k0 := h0
  have lt0 : ∀ x ∈ p0, x.block < W.heap.size := by obtain ⟨m, hm⟩ := k0; exact DataW.trod_lt m _ _ _ hm
  obtain ⟨hh0, rfl, w0⟩ := openHash (hval 0 24 v0 rfl rfl) h0
  have k1 := h1
  have lt1 : ∀ x ∈ p1, x.block < W.heap.size := by obtain ⟨m, hm⟩ := k1; exact DataW.trod_lt m _ _ _ hm
  obtain ⟨a1, rfl, hd1, hp1, w1⟩ := open_int Tryf.underlying27 (hval 1 27 v1 rfl rfl) h1
  have k2 := h2
  have lt2 : ∀ x ∈ p2, x.block < W.heap.size := by obtain ⟨m, hm⟩ := k2; exact DataW.trod_lt m _ _ _ hm
  obtain ⟨L2, w2⟩ := openHashes (hval 2 25 v2 rfl rfl) h2
  have k3 := h3
  have lt3 : ∀ x ∈ p3, x.block < W.heap.size := by obtain ⟨m, hm⟩ := k3; exact DataW.trod_lt m _ _ _ hm
  obtain ⟨L3, w3⟩ := openHashes (hval 3 25 v3 rfl rfl) h3
  refine (walk F.told W hF hh0 w0 a1 (bound_u64 w1) v2 L2 w2 v3 L3 w3 (laidIs_of hL)).mono fun e W' ⟨he, bel⟩ => ?_
  subst he
  exact ⟨_, rfl, _, _, _, [], _, [], hW', trodAll_mk1 (shut_bool Tryf.underlying4 _), (trodAll_cons_mk (Below.trod laidOut (by kernel_rfl) (of_decide_eq_true (by kernel_rfl)) k0 bel lt0) (trodAll_cons_mk (Below.trod laidOut (by kernel_rfl) (of_decide_eq_true (by kernel_rfl)) k1 bel lt1) (trodAll_cons_mk (Below.trod laidOut (by kernel_rfl) (of_decide_eq_true (by kernel_rfl)) k2 bel lt2) (trodAll_cons_mk (Below.trod laidOut (by kernel_rfl) (of_decide_eq_true (by kernel_rfl)) k3 bel lt3) trodAll_mk0)))), rfl, bel.frame _, fun h => by cases h⟩
set_option maxRecDepth 100000 in
theorem lifted (os : Os) (started : os.Started) (H : Type) (enc : TypeId × Value → H) :
    ReturnsInTold none {} Tryf.checked os 11 .any Input.okWide ((OpenSpec.ofChange Rows.fnAppendRangeGrownSpec).preRow enc Tryf.prog Tryf.f11 Rows.fnAppendRangeGrownRow.domain false Rows.fnAppendRangeGrownRow.laid) (fun F => ((OpenSpec.ofChange Rows.fnAppendRangeGrownSpec).at F).post enc Tryf.prog Tryf.f11 false true false false) (aloneAtReturn Tryf.prog) nothingAlways := by
  obtain ⟨places, hx⟩ := reads os enc
  refine returnsInTold_of_row (C := Tryf.checked) (s := OpenSpec.ofChange Rows.fnAppendRangeGrownSpec) mayEnter own started (by kernel_rfl) Tryf.func11
    (OpenSpec.witness_stopped_at (enc := enc) (C := Tryf.checked) false (laidWorld os) #[.agg #[.int .u32 0, .int .u32 0, .int .u32 0], .int .u64 0, .slice none 0 0, .slice none 0 0] rfl (by kernel_rfl) (by kernel_rfl) (by kernel_rfl)
      (OpenSpec.preRow_of_cond 8 hx (by kernel_rfl) (fun k hk => by cases hk) (by kernel_rfl) (laid_met os #[.agg #[.int .u32 0, .int .u32 0, .int .u32 0], .int .u64 0, .slice none 0 0, .slice none 0 0]))) ?_
  intro F W base args ds gs before _ hF hval hW _ _ _ hL _
  exact contract F H enc W base args ds gs before hF hval hW hL
theorem proved : Rows.FnAppendRangeGrownToldSaid :=
  Claim7.holds_of_told_tied_any_at .later 11 Tryf.f11 "fmt.errorf" [] [] _ _ _ _ _ (by kernel_rfl) rfl rfl rfl laidOut (by kernel_rfl) rfl ⟨rfl, rfl, rfl, rfl, rfl, rfl, rfl⟩ rfl rfl (by kernel_rfl) (by kernel_rfl) Tryf.func11 (by kernel_rfl)
    (of_decide_eq_true (by kernel_rfl)) (by unfold Func.isWrapper; first | (rw [if_pos (by decide +kernel)]; kernel_rfl) | (rw [if_neg (by decide +kernel)]; exact ⟨rfl, rfl⟩)) stopsAre.symm rfl stopKnobs.symm (by kernel_rfl)
    (by kernel_rfl) (by kernel_rfl) (by kernel_rfl) (by kernel_rfl) (by kernel_rfl) (by kernel_rfl) (by kernel_rfl) (by kernel_rfl) (by kernel_rfl) rfl (by kernel_rfl) rfl rfl
    rfl rfl
    rfl mainIs (by kernel_rfl) (by kernel_rfl) (by decide) (by kernel_rfl) fnAppendRangeGrown_row_tie
    (OpenClaim.moreEntering_of mayEnter (by kernel_rfl) (by kernel_rfl) (by kernel_rfl) (by kernel_rfl) (by kernel_rfl) (by kernel_rfl) (by kernel_rfl) liftsFinal.symm make)
    ⟨_, WideRow.started_initial, quiet _⟩
    (fun os started _ H enc _ => lifted os started H enc)
end Go.Proofs.YtpdmmmcelkinjaaFmt.fnAppendRangeGrown
