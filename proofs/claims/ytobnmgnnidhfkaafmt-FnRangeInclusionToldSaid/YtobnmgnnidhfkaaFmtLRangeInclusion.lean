/- The proof of a leaf is made of the nodes and hashes that were told as the range grew. -/
import Derived.Test.YtobnmgnnidhfkaaFmtImplApp
import Derived.Test.YtobnmgnnidhfkaaFmtImplVer
import Derived.Test.YtobnmgnnidhfkaaFmtMthW
import Derived.Test.YtobnmgnnidhfkaaFmtAppend
import Derived.Test.YtobnmgnnidhfkaaFmtOpen
import Derived.Test.YtobnmgnnidhfkaaFmtPlan
import Derived.Test.YtobnmgnnidhfkaaFmtHashOf
import Derived.Test.YtobnmgnnidhfkaaFmtEphem
import Derived.Test.YtobnmgnnidhfkaaFmtHeard
import Derived.Test.YtobnmgnnidhfkaaFmtKeep
namespace Go.Proofs.YtobnmgnnidhfkaaFmt.fnRangeInclusion
open Go.ChangeShapes Go.WideShapes Go.ChangeAt Go.RowKit
set_option maxRecDepth 100000
theorem keep1 {w W w' : World} (h : Below w.heap.size w W) (hb : Below W.heap.size W w') : Below w.heap.size w w' := h.trans (hb.mono h.size)
theorem chain_path (h : Pl.HF) (L : List (List Nat)) (i : Nat) (hi : i < L.length) : Pl.chain h (L[i]) ((Pl.dirs i L.length).zip (Pl.pathL h i L)) = Pl.mth h L := by
  have := Pl.chain_sides h (Pl.atL L) i L.length 0 hi
  unfold Pl.mth
  rw [← this]
  unfold Pl.pathL Pl.hl Pl.atL
  rw [Nat.zero_add, List.getD_eq_getElem?_getD, List.getElem?_eq_getElem hi]
  rfl
abbrev SC (w : World) (g3 : Nat) (x1 x2 x3 lv ev rv pv : Value) (ad : Addr) (ll R : List Nat) (L : List (List Nat)) (w' : World) : Prop := w'.cell? ⟨w.heap.size, 0, none⟩ = some x1 ∧ w'.cell? ⟨w.heap.size, 1, none⟩ = some x2 ∧ w'.cell? ⟨w.heap.size, 2, none⟩ = some x3 ∧ w'.cell? ad = some lv ∧ w'.cell? ⟨g3, 1, none⟩ = some ev ∧ w'.cell? ⟨g3, 3, none⟩ = some rv ∧ BytesR w' lv ll ∧ BytesR w' rv R ∧ HashesR w' pv L ∧ Handle w' ∧ Below w.heap.size w w'
theorem keepC {w W w' : World} {g3 : Nat} {x1 x2 x3 lv ev rv pv : Value} {ad : Addr} {ll R : List Nat} {L : List (List Nat)} (hb : Below W.heap.size W w') (h : SC w g3 x1 x2 x3 lv ev rv pv ad ll R L W) : SC w g3 x1 x2 x3 lv ev rv pv ad ll R L w' :=
  have up : ∀ {p : Addr} {v : Value}, W.cell? p = some v → w'.cell? p = some v := fun {p} {_} h => (hb.cell (World.block_lt_of_cell? W p h)).trans h
  ⟨up h.1, up h.2.1, up h.2.2.1, up h.2.2.2.1, up h.2.2.2.2.1, up h.2.2.2.2.2.1, h.2.2.2.2.2.2.1.below hb, h.2.2.2.2.2.2.2.1.below hb, h.2.2.2.2.2.2.2.2.1.below hb, h.2.2.2.2.2.2.2.2.2.1.below hb, h.2.2.2.2.2.2.2.2.2.2.trans (hb.mono h.2.2.2.2.2.2.2.2.2.2.size)⟩
theorem mr_len2 (h : Pl.HF) (f : Nat → List Nat) (a n : Nat) (h1 : 1 ≤ n) (hf : ∀ i, a ≤ i → i < a + n → (f i).length = 2) : (Pl.mr h f a n).length = 2 := by
  by_cases hn : 2 ≤ n
  · rw [Pl.mr_two _ _ _ _ hn]; rfl
  · obtain rfl : n = 1 := by omega
    rw [Pl.mr_one]; exact hf a (Nat.le_refl _) (by omega)
theorem nodeHs_fits (h : Pl.HF) (L : List (List Nat)) (N : List (Nat × Nat)) (hL : ∀ x ∈ L, x.length = 2) (ho : OfLeaves L.length N) (hN : N.length ≤ 2147483647) : Fits (nodeHs h L N) := by
  refine ⟨by rw [nodeHs_length]; exact hN, fun x hx => ?_⟩
  obtain ⟨p, hp, rfl⟩ := List.mem_map.1 hx
  have h1 := (ho p hp).2
  have h2 := Nat.two_pow_pos p.1
  rw [Nat.add_mul, Nat.one_mul] at h1
  rw [mr_len2 h (Pl.atL L) _ _ h2 (fun i _ hi => ?_)]
  · omega
  · unfold Pl.atL
    rw [List.getD_eq_getElem?_getD, List.getElem?_eq_getElem (by omega)]
    exact hL _ (List.getElem_mem _)
set_option maxHeartbeats 8000000 in
theorem main (F : Stop.Interp) (h : Pl.HF) (ok : h.ok) (idx : Int) (Av : Option Addr) (cv : Nat) (P : List (List Nat)) (w : World) (_hF : F.answers w.tape) (hT : Tab w) (hH : Handle w) (hv : HashesR w (.slice Av P.length cv) P) (_gfP : Fits P) (HFP : Hid (∀ W, Below w.heap.size w W → Calls Tryf.prog 7 #[.slice Av P.length cv] W fun e w' => e = .returned (.bool true) ∧ W = w')) (geP : IsLeaves P) (HEP : Hid (∀ W, Below w.heap.size w W → Calls Tryf.prog 12 #[.slice Av P.length cv] W fun e w' => e = .returned (.bool true) ∧ W = w')) (h0 : 0 ≤ idx) (h1 : idx < (P.length : Int)) :
    Calls Tryf.prog 5 #[hashV h, .int .i64 (idx : Int), .slice Av P.length cv] w fun e w' => e = .returned (.bool true) ∧ Below w.heap.size w w' := by
  obtain ⟨i, rfl⟩ := Int.eq_ofNat_of_zero_le h0
  have hi : i < P.length := by omega
  obtain ⟨l1, l2, l3⟩ := geP
  have HB := Lib.hid (fun C => (Below.refl w.heap.size w).alloc (Nat.le_refl _) (.cells C 24))
  obtain ⟨g, o, Al, cl, rfl, hcl, hlb⟩ := hv.at i hi
  have hlp : (P[i]).length = 2 := l1 _ (List.getElem_mem hi)
  have HAP := Lib.hid (fun W (hW : Below w.heap.size w W) => append_d F h ok 0 (.slice (some ⟨g, o, none⟩) P.length cv) P W (ans_below _hF hW) (hv.below hW) l1 (by omega) (by omega) (hT.below hW))
  have HRM := Lib.hid (rootAt_mth h P (by omega) (by omega))
  have HIP := Lib.hid (fun W (hT : Tab W) => implIncl i P.length hi (by omega) W hT)
  have hOF := incl_of P i hi (by omega)
  have hLaw := incl_reh h P i hi (by omega)
  have hNl : (Pl.planL 0 i P.length).tail.length ≤ 1000 := by
    have := Pl.plan_len (l := 0) (i := i) (s := P.length) (by simpa using hi) (by omega)
    simp; omega
  have hsk : skE (Pl.planB 0 i P.length) (Pl.planE 0 i P.length) ≤ (Pl.planL 0 i P.length).tail.length := by
    rw [(sk_plan 0 i P.length).2]
    split
    · omega
    · unfold Pl.planL; simp [Pl.sibs_length] <;> omega
  have HRI : Hid (∀ (W : World) (u : Value), Tab W → HashesR W u (nodeHs h P (Pl.planL 0 i P.length).tail) → Calls Tryf.prog 15 #[hashV h, .int .u64 (i : Int), .int .u64 ((P.length : Nat) : Int), u] W (RetReh W (Pl.pathL h i P))) := Lib.hid (fun W u hT hu => by
    have := rehIncl_c h ok i P.length _ _ _ _ (Pl.planL 0 i P.length).tail u _ W hT (fun W hT => inclusion_c i P.length hi (by omega) W hT) hu (nodeHs_fits h P _ l1 hOF (by omega)) (nodeHs_length _ _ _).symm (by rw [nodeHs_length]; exact hsk)
    rwa [hLaw] at this)
  have hpl := path_len h i P hi (by omega)
  have hch := chain_path h P i hi
  have hfp : Fits (Pl.pathL h i P) := ⟨by omega, fun x hx => by
    unfold Pl.pathL Pl.hl at hx
    obtain ⟨p, hp, rfl⟩ := List.mem_map.1 hx
    have hs := Pl.sides_in i P.length 0 hi p hp
    by_cases h2 : 2 ≤ p.2
    · rw [Pl.mr_two _ _ _ _ h2]; exact (by decide : (2 : Nat) ≤ 2147483647)
    · obtain ⟨pa, pn⟩ := p
      obtain rfl : pn = 1 := by simp at hs h2; omega
      simp only [] at hs ⊢
      rw [Pl.mr_one]
      unfold Pl.atL
      rw [List.getD_eq_getElem?_getD, List.getElem?_eq_getElem (by omega)]
      exact Nat.le_trans (Nat.le_of_eq (l1 _ (List.getElem_mem _))) (by decide)⟩
  have HV := Lib.hid (fun (W : World) (pv rv : Value) (h1 : BytesR W (.slice Al (P[i]).length cl) P[i]) (h2 : HashesR W pv (Pl.pathL h i P)) (h3 : BytesR W rv (Pl.mth h P)) (h4 : Handle W) => verI_yes h ok i P.length hi (by omega) _ pv rv P[i] (Pl.mth h P) (Pl.pathL h i P) W hlp h1 h2 h3 (by rw [Pl.pathL_length]) hfp h4 hch)
  have HS0 := Lib.hid (fun (W : World) (hb : Below w.heap.size w W) => show W.cell? ⟨g, o + i, none⟩ = some (.slice Al (P[i]).length cl) ∧ BytesR W (.slice Al (P[i]).length cl) P[i] ∧ Handle W ∧ Tab W from ⟨(hb.cell (World.block_lt_of_cell? w _ hcl)).trans hcl, hlb.below hb, hH.below hb, hT.below hb⟩)
  have HGN := Lib.hid (fun (G : List SeenN) (hG : G = Pl.grownL h (Pl.lv P 0) 0 P.length) => show G.length ≤ 13000 ∧ ∀ k (hk : k < (Pl.planL 0 i P.length).tail.length), hl2 h P (Pl.planL 0 i P.length).tail G k G.length (Pl.planL 0 i P.length).tail[k].1 (Pl.planL 0 i P.length).tail[k].2 = nodeHs h P ((Pl.planL 0 i P.length).tail.take (k + 1)) from by
    subst hG
    have := Pl.grownL_length h (Pl.lv P 0) 0 P.length (by omega)
    exact ⟨by omega, fun k hk => hl2_end h P _ k hk hOF (by omega)⟩)
  have e1 : IntKind.u64.wrap (i : Int) = (i : Int) := wrapN i (by omega)
  have e2 : IntKind.u64.wrap ((P.length : Nat) : Int) = ((P.length : Nat) : Int) := wrapN _ (by omega)
  have h1' : (i : Int) < ((P.length : Nat) : Int) := by omega
  have h0' : (0 : Int) ≤ (i : Int) := by omega
  have hn200 : ((P.length : Nat) : Int) ≤ 200 := by omega
  generalize Pl.pathL h i P = pth at *
  generalize hmt : Pl.mth h P = rt at *
  generalize (Pl.planL 0 i P.length).tail = N at *
  generalize sk (Pl.planB 0 i P.length) (Pl.planE 0 i P.length) = pb at *
  generalize skE (Pl.planB 0 i P.length) (Pl.planE 0 i P.length) = pe at *
  generalize 0 + Pl.up 0 i P.length = el at *
  generalize Pl.ephI 0 i P.length = ei at *
  clear hmt
  clear _hF hH hv _gfP l1 l2 l3 h0 h1 hcl hlb hpl hch hfp hlp hT hOF hLaw hsk
  generalize P[i] = ll at *
  generalize ll.length = nl at *
  generalize hnn : P.length = n at *
  have HNN := Lib.hid hnn
  clear hnn hi ok
  have HNL := Lib.hid hNl
  clear hNl
  obtain ⟨Ah, Bh, Ch⟩ := h
  unfold hashV at HRI HV ⊢
  simp only [] at HRI HV ⊢
  go_enter Tryf.func5, Tryf.ntmps5
  go_wp2_with fail
  refine (HFP.out _ (HB.out _)).mono ?_; rintro e w' ⟨rfl, rfl⟩
  go_wp2_with fail
  refine (HEP.out _ (HB.out _)).mono ?_; rintro e w' ⟨rfl, rfl⟩
  go_wp2_with fail
  refine (HAP.out _ (HB.out _)).mono ?_; rintro r w3 ⟨A2, Ar, A6, A7, c2, nr, cr, c6, c7, nH, nG, nE, e, kb, H, R, G, E, rfl, HEQ, HK, hb3⟩
  have HKH : Hid (Blk w3 w.heap.size 24 #[.int .u32 (Ah : Int), .int .u32 (Bh : Int), .int .u32 (Ch : Int)]) := Lib.hid ((Blk.new w _ _).below' hb3)
  have HB3 := Lib.hid ((HB.out _).trans (hb3.mono (HB.out _).size))
  clear hb3
  obtain rfl : e = n := by rw [HEQ.out.1]; exact Nat.zero_add _
  obtain rfl : R = rt := by
    have h1 := HEQ.out.2.2.2.1
    rw [HEQ.out.2.2.1] at h1
    rw [h1, HRM.out]
  clear HRM
  obtain ⟨hGl, hGe⟩ := HGN.out G HEQ.out.2.2.2.2.1
  obtain rfl : nG = G.length := HEQ.out.2.2.2.2.2.2.2.2.1
  have HGE := Lib.hid hGe
  have HGL := Lib.hid hGl
  clear hGe hGl HGN
  have BA : Below w3.heap.size w3 (w3.alloc (.cells #[.int .u64 0, .int .u64 (e : Int), .slice A2 nH c2, .slice Ar nr cr, .bool kb, .slice A6 G.length c6, .slice A7 nE c7] 44)) := (Below.refl _ _).alloc (Nat.le_refl _) _
  have HKR := Lib.hid (Blk.new w3 44 #[.int .u64 0, .int .u64 (e : Int), .slice A2 nH c2, .slice Ar nr cr, .bool kb, .slice A6 G.length c6, .slice A7 nE c7])
  have HKH4 := Lib.hid (HKH.out.below' BA)
  have HSG4 := Lib.hid (HK.out.2.2.1.below BA)
  have HBR4 := Lib.hid (HK.out.2.1.1.below BA)
  have HB4 := Lib.hid (HB3.out.trans (BA.mono HB3.out.size))
  clear BA HK HKH
  go_wp2_with fail
  refine (HIP.out _ (HS0.out _ HB4.out).2.2.2).mono ?_; rintro r w4 ⟨v1, rfl, hv1, hb4⟩
  obtain ⟨An, cn, rfl, xx1, xx2⟩ := id hv1
  clear xx1 xx2
  have KR4 := Lib.hid (HKR.out.below' hb4)
  have KH4 := Lib.hid (HKH4.out.below' hb4)
  have SG4 := Lib.hid (HSG4.out.below hb4)
  have BR4 := Lib.hid (HBR4.out.below hb4)
  have B4 := Lib.hid (HB4.out.trans (hb4.mono HB4.out.size))
  have V4 := Lib.hid hv1
  clear HKR HKH4 HSG4 HBR4 HB4 hb4 hv1 HIP
  have BP : Below w4.heap.size w4 (w4.alloc (.cells #[.slice An N.length cn, .int .u64 (el : Int), .int .u64 (ei : Int), .int .i64 (pb : Int), .int .i64 (pe : Int)] 36)) := (Below.refl _ _).alloc (Nat.le_refl _) _
  have HKP := Lib.hid (Blk.new w4 36 #[.slice An N.length cn, .int .u64 (el : Int), .int .u64 (ei : Int), .int .i64 (pb : Int), .int .i64 (pe : Int)])
  have HKR5 := Lib.hid (KR4.out.below' BP)
  have HKH5 := Lib.hid (KH4.out.below' BP)
  have HSG5 := Lib.hid (SG4.out.below BP)
  have HBR5 := Lib.hid (BR4.out.below BP)
  have HB5 := Lib.hid (B4.out.trans (BP.mono B4.out.size))
  have HV5 := Lib.hid (V4.out.below BP)
  clear KR4 KH4 SG4 BR4 B4 V4 BP
  go_wp2_with fail
  have HWZ := Lib.hid (World.size_alloc w4 (.cells #[.slice An N.length cn, .int .u64 (el : Int), .int .u64 (ei : Int), .int .i64 (pb : Int), .int .i64 (pe : Int)] 36))
  generalize w4.alloc (.cells #[.slice An N.length cn, .int .u64 (el : Int), .int .u64 (ei : Int), .int .i64 (pb : Int), .int .i64 (pe : Int)] 36) = W0 at *
  have hG13 : (G.length : Int) ≤ 13000 := by have := HGL.out; omega
  have hN10 : (N.length : Int) ≤ 1000 := by have := HNL.out; omega
  go_loopw [11, 13, 15, 52, 59] (fun ov _ _ kv _ wr => ∃ (k n1 c1 : Nat) (A1 : Option Addr), k ≤ N.length ∧ kv = .int .i64 (k : Int) ∧ ov = .slice A1 n1 c1 ∧ Hid (Built wr W0.heap.size (.slice A1 n1 c1) (nodeHs ⟨Ah, Bh, Ch⟩ P (N.take k)) ∧ Below W0.heap.size W0 wr)) (fun _ _ _ kv _ _ => N.length - (intOf kv).toNat)
  case atStart =>
    have ho := World.ownsRow_lit (base := W0.heap.size) (e := 26) (size := 1) W0 #[] 0 (Nat.le_refl _) (by unfold maxLen; omega) rfl
    exact ⟨0, 0, 0, some ⟨W0.heap.size, 0, none⟩, Nat.zero_le _, rfl, by rw [HWZ.out], Lib.hid ⟨by simpa [nodeHs] using Built.nil ho, (Below.refl _ _).alloc (Nat.le_refl _) _⟩⟩
  case round =>
    obtain ⟨k, n1, c1, A1, hk, rfl, rfl, HBU⟩ := hrel
    by_cases hkl : k < N.length
    · obtain ⟨A', cap', e', hc', hat'⟩ := HV5.out
      injection e' with e'1 e'2 e'3
      subst e'1 e'3
      obtain ⟨gN, oN, rfl, hcN⟩ := hat' (by omega)
      obtain ⟨d0, d1⟩ := hcN k hkl
      have HLE := Lib.hid (HGE.out k hkl)
      have HLS := Lib.hid (hl2_start ⟨Ah, Bh, Ch⟩ P N G k N[k].1 N[k].2)
      have BK := HBU.out.2
      have d0 := (BK.cell (World.block_lt_of_cell? W0 _ d0)).trans d0
      have d1 := (BK.cell (World.block_lt_of_cell? W0 _ d1)).trans d1
      clear e'2 hc' hat' hcN
      generalize N[k].1 = lk at *
      generalize N[k].2 = ik at *
      have BN := (Below.refl wr.heap.size wr).alloc (Nat.le_refl _) (.cells #[.int .u64 (lk : Int), .int .u64 (ik : Int)] 34)
      have KN := Lib.hid (Blk.new wr 34 #[.int .u64 (lk : Int), .int .u64 (ik : Int)])
      have BW := BK.trans (BN.mono BK.size)
      have k5 := (HKR5.out.below' BW).cell 5
      have HBW := Lib.hid BW
      have HBL := Lib.hid (HBU.out.1.below BN)
      have hk1 : (k : Int) < (N.length : Int) := by omega
      have hk0 : (0 : Int) ≤ (k : Int) := by omega
      clear BK BN BW HBU
      go_wp2_with fail
      obtain ⟨wo, rfl⟩ : ∃ wo : World, wo = wr := ⟨_, rfl⟩
      generalize hgn : wo.heap.size = gn at *
      generalize wo.alloc (.cells #[.int .u64 (lk : Int), .int .u64 (ik : Int)] 34) = W1 at *
      clear hgn d0 d1 k5
      go_loopw [11, 15, 59] (fun ov _ jv wi => ∃ (j n2 c2 : Nat) (A2 : Option Addr), j ≤ G.length ∧ jv = .int .i64 (j : Int) ∧ ov = .slice A2 n2 c2 ∧ Hid (Built wi W0.heap.size (.slice A2 n2 c2) (hl2 ⟨Ah, Bh, Ch⟩ P N G k j lk ik) ∧ Below W0.heap.size W0 wi ∧ Blk wi gn 34 #[.int .u64 (lk : Int), .int .u64 (ik : Int)])) (fun _ _ jv _ => G.length - (intOf jv).toNat)
      case atStart => exact ⟨0, n1, c1, A1, Nat.zero_le _, rfl, rfl, Lib.hid ⟨by rw [HLS.out]; exact HBL.out, HBW.out, KN.out⟩⟩
      case round =>
        obtain ⟨j, n2, c2', A2', hj, rfl, rfl, HBU⟩ := hrel
        by_cases hjl : j < G.length
        · obtain ⟨gS, cS, eA, hcS, hat⟩ := HSG5.out.at (by omega)
          injection eA with eA1 eA2 eA3
          subst eA1 eA3
          clear eA2
          obtain ⟨uj, d0, d1, d2, b2⟩ := hat j hjl
          obtain ⟨Au, nu, cu, rfl⟩ : ∃ A n c, uj = .slice A n c := by obtain ⟨A, c, e, _⟩ := b2.1; exact ⟨A, _, c, e⟩
          obtain ⟨hBu, hBe, hKn⟩ := HBU.out
          have d0 := (hBe.cell (World.block_lt_of_cell? W0 _ d0)).trans d0
          have d1 := (hBe.cell (World.block_lt_of_cell? W0 _ d1)).trans d1
          have d2 := (hBe.cell (World.block_lt_of_cell? W0 _ d2)).trans d2
          have HYE := Lib.hid (fun hh => hl2_yes ⟨Ah, Bh, Ch⟩ P N G k j lk ik hjl hh)
          have HNO := Lib.hid (fun hh => hl2_no ⟨Ah, Bh, Ch⟩ P N G k j lk ik hjl hh)
          have HLN := Lib.hid (hl2_len ⟨Ah, Bh, Ch⟩ P N G k j lk ik)
          clear hat
          generalize G[j].1 = lj at *
          generalize G[j].2.1 = ij at *
          generalize G[j].2.2 = hs at *
          have BN : Below wr.heap.size wr (wr.alloc (.cells #[.int .u64 (lj : Int), .int .u64 (ij : Int), .slice Au nu cu] 50)) := (Below.refl _ _).alloc (Nat.le_refl _) _
          have hKn2 := hKn.below' BN
          have y0 := hKn2.cell 0
          have y1 := hKn2.cell 1
          have HBU2 := Lib.hid (show Built _ _ _ _ ∧ Below _ _ _ ∧ Blk _ _ _ _ ∧ BytesT _ _ _ from ⟨hBu.below BN, hBe.trans (BN.mono hBe.size), hKn2, (b2.below hBe).below BN⟩)
          have HWS := Lib.hid hBe.size
          have hj1 : (j : Int) < (G.length : Int) := by omega
          have hj0 : (0 : Int) ≤ (j : Int) := by omega
          clear hBu hBe hKn hKn2 BN b2 HBU
          by_cases h1 : lj = lk
          · subst h1
            by_cases h2 : ij = ik
            · subst h2
              have HY := Lib.hid (HYE.out ⟨rfl, rfl⟩)
              clear HYE HNO
              go_wp2_with (first
                | (at_builtin
                   refine wpList_append_builtT rfl (.tmp 67) (.tmp 70) rfl W0.heap.size (.slice A2' n2 c2') _ (HBU2.out.1.below ((Below.refl _ _).alloc (Nat.le_refl _) (.cells #[.slice Au nu cu] 26))) rfl (wr.heap.size + 1) (.slice Au nu cu) hs rfl (by simp) (HBU2.out.2.2.2.below ((Below.refl _ _).alloc (Nat.le_refl _) (.cells #[.slice Au nu cu] 26))) (by have := HLN.out; have := HGL.out; have := HNL.out; omega) (by have := HWS.out; simp; omega) ?_
                   intro A5 n5 c5 w5 hB5 hb5 hk5)
                | fail)
              have hfin : Built w5 W0.heap.size (.slice A5 n5 c5) (hl2 ⟨Ah, Bh, Ch⟩ P N G k (j + 1) lj ij) ∧ Below W0.heap.size W0 w5 ∧ Blk w5 gn 34 #[.int .u64 (lj : Int), .int .u64 (ij : Int)] :=
                ⟨by rw [HY.out]; exact hB5, (HBU2.out.2.1.alloc HBU2.out.2.1.size _).trans hb5, hk5.blk (HBU2.out.2.2.1.alloc _) (by decide)⟩
              clear hB5 hb5 hk5
              go_roundw
              case rel => exact ⟨j + 1, n5, c5, A5, by omega, by go_num, rfl, Lib.hid hfin⟩
              case measure => simp [intOf] <;> omega
            · have hne : ¬ ((ij : Int) = (ik : Int)) := by omega
              have HN0 := Lib.hid (HNO.out fun hh => h2 hh.2)
              clear HYE HNO h2
              go_wp2_with fail
              go_roundw
              case rel => exact ⟨j + 1, n2, c2', A2', by omega, by go_num, rfl, Lib.hid ⟨by rw [HN0.out]; exact HBU2.out.1, HBU2.out.2.1, HBU2.out.2.2.1⟩⟩
              case measure => simp [intOf] <;> omega
          · have hne : ¬ ((lj : Int) = (lk : Int)) := by omega
            have HN0 := Lib.hid (HNO.out fun hh => h1 hh.1)
            clear HYE HNO h1
            go_wp2_with fail
            go_roundw
            case rel => exact ⟨j + 1, n2, c2', A2', by omega, by go_num, rfl, Lib.hid ⟨by rw [HN0.out]; exact HBU2.out.1, HBU2.out.2.1, HBU2.out.2.2.1⟩⟩
            case measure => simp [intOf] <;> omega
        · have hj1 : ¬ (j : Int) < (G.length : Int) := by omega
          obtain rfl : j = G.length := by omega
          go_wp2_with fail
          go_roundw
          case rel => exact ⟨k + 1, n2, c2', A2', by omega, by go_num, rfl, Lib.hid ⟨by rw [← HLE.out]; exact HBU.out.1, HBU.out.2.1⟩⟩
          case measure => simp [intOf] <;> omega
    · have hk1 : ¬ (k : Int) < (N.length : Int) := by omega
      obtain rfl : k = N.length := by omega
      obtain ⟨hBu, hBe⟩ := HBU.out
      rw [List.take_length] at hBu
      have BW := HB5.out.trans (hBe.mono HB5.out.size)
      have HHS := Lib.hid hBu.hashes
      have KH := Lib.hid (HKH5.out.below' hBe)
      have KR := Lib.hid (HKR5.out.below' hBe)
      have BR := Lib.hid (HBR5.out.below hBe)
      have HBW := Lib.hid BW
      have r1 := KR.out.cell 1
      have hh0 := KH.out.cell 0
      have hh1 := KH.out.cell 1
      have hh2 := KH.out.cell 2
      clear hBu hBe BW hk hkl HBU
      go_wp2_with fail
      refine (HRI.out _ _ (HS0.out _ HBW.out).2.2.2 HHS.out).mono ?_; rintro r w7 ⟨v3, rfl, hv3, hb7⟩
      obtain ⟨A3, c3', rfl, xx⟩ := id hv3
      clear xx
      have BD := hb7.drew
      have B7 := HBW.out.trans (BD.mono HBW.out.size)
      have KH7 := KH.out.below' BD
      have KR7 := KR.out.below' BD
      obtain ⟨z1, z2, z3, _⟩ := HS0.out _ B7
      have S0 : SC w w3.heap.size (.int .u32 (Ah : Int)) (.int .u32 (Bh : Int)) (.int .u32 (Ch : Int)) (.slice Al nl cl) (.int .u64 (e : Int)) (.slice Ar nr cr) (.slice A3 pth.length c3') ⟨g, o + i, none⟩ ll R pth w7.drew := ⟨KH7.cell 0, KH7.cell 1, KH7.cell 2, z1, KR7.cell 1, KR7.cell 3, z2, BR.out.below BD, hv3.below ((Below.refl _ _).drew), z3, B7⟩
      generalize pth.length = np at *
      clear r1 hh0 hh1 hh2 hv3 hb7 BD B7 KH7 KR7 z1 z2 z3
      go_wp2_with fail
      go_region_held3 (fun w' => w'.cell? ⟨w.heap.size, 0, none⟩ = some (.int .u32 (Ah : Int)) ∧ w'.cell? ⟨w.heap.size, 1, none⟩ = some (.int .u32 (Bh : Int)) ∧ w'.cell? ⟨w.heap.size, 2, none⟩ = some (.int .u32 (Ch : Int)) ∧ w'.cell? ⟨g, o + i, none⟩ = some (.slice Al nl cl) ∧ w'.cell? ⟨w3.heap.size, 1, none⟩ = some (.int .u64 (e : Int)) ∧ w'.cell? ⟨w3.heap.size, 3, none⟩ = some (.slice Ar nr cr) ∧ BytesR w' (.slice Al nl cl) ll ∧ BytesR w' (.slice Ar nr cr) R ∧ HashesR w' (.slice A3 np c3') pth ∧ Handle w' ∧ Below w.heap.size w w')
        (first | with_reducible assumption | with_reducible exact S0 | with_reducible exact keepC hb (by with_reducible assumption) | fail)
        (first
          | (go_at_call 10; have sc := (show SC w w3.heap.size (.int .u32 (Ah : Int)) (.int .u32 (Bh : Int)) (.int .u32 (Ch : Int)) (.slice Al nl cl) (.int .u64 (e : Int)) (.slice Ar nr cr) (.slice A3 np c3') ⟨g, o + i, none⟩ ll R pth _ by with_reducible assumption); refine (HV.out _ _ _ sc.2.2.2.2.2.2.1 sc.2.2.2.2.2.2.2.2.1 sc.2.2.2.2.2.2.2.1 sc.2.2.2.2.2.2.2.2.2.1).mono ?_; rintro e9 w' ⟨rfl, hb⟩)
          | fail)
      all_goals
        have hfin := (show SC w w3.heap.size (.int .u32 (Ah : Int)) (.int .u32 (Bh : Int)) (.int .u32 (Ch : Int)) (.slice Al nl cl) (.int .u64 (e : Int)) (.slice Ar nr cr) (.slice A3 np c3') ⟨g, o + i, none⟩ ll R pth w' by with_reducible assumption).2.2.2.2.2.2.2.2.2.2
        go_wp2
        go_ret
        exact ⟨by first | rfl | (simp <;> omega), hfin⟩
set_option maxHeartbeats 2000000 in
theorem walk (F : Stop.Interp) (w : World) (hF : F.answers w.tape) (h : Pl.HF) (ok : h.ok) (a1 : Int) (w1 : -9223372036854775808 ≤ a1 ∧ a1 ≤ 9223372036854775807) (v : Value) (P : List (List Nat)) (hv : HashesR w v P) (hT : LaidIsH w) :
    Calls Tryf.prog 5 #[hashV h, .int .i64 a1, v] w fun e w' => e = .returned (.bool true) ∧ Below w.heap.size w w' := by
  have HB := Lib.hid (fun C => (Below.refl w.heap.size w).alloc (Nat.le_refl _) (.cells C 24))
  obtain ⟨Av, cv, ev, h9v⟩ := id hv
  clear h9v
  subst ev
  by_cases g0 : ¬ Fits P
  case pos =>
    have HFx : Hid (∀ W, Below w.heap.size w W → Calls Tryf.prog 7 #[.slice Av P.length cv] W fun e w' => e = .returned (.bool false) ∧ W = w') := Lib.hid (fun W hb => (fits1_c (.slice Av P.length cv) P W (hv.below hb)).mono fun _ _ r => r.no g0)
    obtain ⟨Ah, Bh, Ch⟩ := h
    unfold hashV
    clear hT hF w1 hv g0 ok
    go_enter Tryf.func5, Tryf.ntmps5
    go_wp2_with fail
    refine (HFx.out _ (HB.out _)).mono ?_; rintro e w' ⟨rfl, rfl⟩
    go_wp2_with fail
    go_ret
    exact ⟨rfl, HB.out _⟩
  have gfP : Fits P := Classical.not_not.1 g0
  clear g0
  have HFP : Hid (∀ W, Below w.heap.size w W → Calls Tryf.prog 7 #[.slice Av P.length cv] W fun e w' => e = .returned (.bool true) ∧ W = w') := Lib.hid (fun W hb => (fits1_c (.slice Av P.length cv) P W (hv.below hb)).mono fun _ _ r => r.yes gfP)
  by_cases g1 : ¬ IsLeaves P
  case pos =>
    have HSx : Hid (∀ W, Below w.heap.size w W → Calls Tryf.prog 12 #[.slice Av P.length cv] W fun e w' => e = .returned (.bool false) ∧ W = w') := Lib.hid (fun W hb => (leaves_c (.slice Av P.length cv) P W (hv.below hb) gfP.1).mono fun _ _ r => r.no g1)
    obtain ⟨Ah, Bh, Ch⟩ := h
    unfold hashV
    clear hT hF w1 hv gfP g1 ok
    go_enter Tryf.func5, Tryf.ntmps5
    go_wp2_with fail
    refine (HFP.out _ (HB.out _)).mono ?_; rintro e w' ⟨rfl, rfl⟩
    go_wp2_with fail
    refine (HSx.out _ (HB.out _)).mono ?_; rintro e w' ⟨rfl, rfl⟩
    go_wp2_with fail
    go_ret
    exact ⟨rfl, HB.out _⟩
  have geP : IsLeaves P := Classical.not_not.1 g1
  clear g1
  have HEP : Hid (∀ W, Below w.heap.size w W → Calls Tryf.prog 12 #[.slice Av P.length cv] W fun e w' => e = .returned (.bool true) ∧ W = w') := Lib.hid (fun W hb => (leaves_c (.slice Av P.length cv) P W (hv.below hb) gfP.1).mono fun _ _ r => r.yes geP)
  by_cases g2 : a1 < 0
  case pos =>
    obtain ⟨Ah, Bh, Ch⟩ := h
    unfold hashV
    clear hT hF w1 hv geP gfP ok
    go_enter Tryf.func5, Tryf.ntmps5
    go_wp2_with fail
    refine (HFP.out _ (HB.out _)).mono ?_; rintro e w' ⟨rfl, rfl⟩
    go_wp2_with fail
    refine (HEP.out _ (HB.out _)).mono ?_; rintro e w' ⟨rfl, rfl⟩
    go_wp2_with fail
    go_ret
    exact ⟨rfl, HB.out _⟩
  by_cases g3 : (P.length : Int) ≤ a1
  case pos =>
    obtain ⟨Ah, Bh, Ch⟩ := h
    unfold hashV
    clear hT hF w1 hv geP gfP ok
    go_enter Tryf.func5, Tryf.ntmps5
    go_wp2_with fail
    refine (HFP.out _ (HB.out _)).mono ?_; rintro e w' ⟨rfl, rfl⟩
    go_wp2_with fail
    refine (HEP.out _ (HB.out _)).mono ?_; rintro e w' ⟨rfl, rfl⟩
    go_wp2_with fail
    go_ret
    exact ⟨rfl, HB.out _⟩
  exact main F h ok a1 Av cv P w hF hT.1 hT.handle hv gfP HFP geP HEP (by omega) (by omega)
theorem reads (os : Os) {H : Type} (enc : TypeId × Value → H) : ∃ places, DataW.whole enc Tryf.prog ((laidWorldH os).forCall (fun _ _ => 0) ⟨#[], #[.agg #[.int .u32 0, .int .u32 0, .int .u32 0], .int .i64 0, .slice none 0 0], []⟩).memory Tryf.f5.params.toList Rows.fnRangeInclusionSpec.vars false (#[.agg #[.int .u32 0, .int .u32 0, .int .u32 0], .int .i64 0, .slice none 0 0] : Array Value).toList 8 = some ([.agg [.lit (.int .u32 0), .lit (.int .u32 0), .lit (.int .u32 0)], .lit (.int .i64 0), .nil], [], places) :=
  ⟨[], by kernel_rfl⟩
set_option maxRecDepth 100000 in
theorem contract (F : Stop.Interp) (H : Type) (enc : TypeId × Value → H) (W : World) (base : Nat) (args : Array Value) (ds gs : List (DataW H)) (before : List MemPlace) (hF : F.told.answers W.tape)
    (hval0 : ∀ (j : Nat) t v, Tryf.f5.params[j]? = some t → args[j]? = some v → Value.okWide Tryf.prog W .any base t v)
    (hW : DataW.Whole enc Tryf.prog Tryf.f5.params.toList Rows.fnRangeInclusionSpec.vars false W args.toList ds gs before) (hL : laidMetH Tryf.prog Rows.fnRangeInclusionRow.laid W) :
    Calls Tryf.prog 5 args W fun e W' => ∃ v, e = .returned v ∧ ((OpenSpec.ofChange Rows.fnRangeInclusionSpec).at F.told).post enc Tryf.prog Tryf.f5 false true false false W args v W' := by
  have hval : ∀ (j : Nat) t v, Tryf.f5.params[j]? = some t → args[j]? = some v → Value.okWide Tryf.prog W .any base t v := hval0
  have hW' := hW
  obtain ⟨p, q, hA0, hV, rfl, hfz, hnd⟩ := hW
  have hA : DataW.TrodAll enc Tryf.prog W 0 (fun _ => true) true Tryf.f5.params.toList args.toList ds p := hA0
  rw [Tryf.params5] at hA hval
  obtain ⟨v0, vs0, d0, ds0, p0, q0, hargs, rfl, rfl, h0, r0⟩ := trodAll_cons hA
  obtain ⟨v1, vs1, d1, ds1, p1, q1, rfl, rfl, rfl, h1, r1⟩ := trodAll_cons r0
  obtain ⟨v2, vs2, d2, ds2, p2, q2, rfl, rfl, rfl, h2, r2⟩ := trodAll_cons r1
  obtain ⟨rfl, rfl, rfl⟩ := trodAll_nil r2
  obtain rfl : args = #[v0, v1, v2] := by cases args; simp_all
  obtain ⟨rfl, rfl⟩ := trodVars_none hV
  have k0 := h0
  have lt0 : ∀ x ∈ p0, x.block < W.heap.size := by obtain ⟨m, hm⟩ := k0; exact DataW.trod_lt m _ _ _ hm
  obtain ⟨hh0, rfl, w0⟩ := openHash (hval 0 24 v0 rfl rfl) h0
  have k1 := h1
  have lt1 : ∀ x ∈ p1, x.block < W.heap.size := by obtain ⟨m, hm⟩ := k1; exact DataW.trod_lt m _ _ _ hm
  obtain ⟨a1, rfl, hd1, hp1, w1⟩ := open_int Tryf.underlying3 (hval 1 3 v1 rfl rfl) h1
  have k2 := h2
  have lt2 : ∀ x ∈ p2, x.block < W.heap.size := by obtain ⟨m, hm⟩ := k2; exact DataW.trod_lt m _ _ _ hm
  obtain ⟨L2, w2⟩ := openHashes (hval 2 27 v2 rfl rfl) h2
  refine (walk F.told W hF hh0 w0 a1 (bound_i64 w1) v2 L2 w2 (laidIsH_of hL)).mono fun e W' ⟨he, bel⟩ => ?_
  subst he
  exact ⟨_, rfl, _, _, _, [], _, [], hW', trodAll_mk1 (shut_bool Tryf.underlying4 _), (trodAll_cons_mk (Below.trod laidOut (by kernel_rfl) (of_decide_eq_true (by kernel_rfl)) k0 bel lt0) (trodAll_cons_mk (Below.trod laidOut (by kernel_rfl) (of_decide_eq_true (by kernel_rfl)) k1 bel lt1) (trodAll_cons_mk (Below.trod laidOut (by kernel_rfl) (of_decide_eq_true (by kernel_rfl)) k2 bel lt2) trodAll_mk0))), rfl, bel.frame _, fun h => by cases h⟩
set_option maxRecDepth 100000 in
theorem lifted (os : Os) (started : os.Started) (H : Type) (enc : TypeId × Value → H) :
    ReturnsInTold none {} Tryf.checked os 5 .any Input.okWide ((OpenSpec.ofChange Rows.fnRangeInclusionSpec).preRow enc Tryf.prog Tryf.f5 Rows.fnRangeInclusionRow.domain false Rows.fnRangeInclusionRow.laid) (fun F => ((OpenSpec.ofChange Rows.fnRangeInclusionSpec).at F).post enc Tryf.prog Tryf.f5 false true false false) (aloneAtReturn Tryf.prog) nothingAlways := by
  obtain ⟨places, hx⟩ := reads os enc
  refine returnsInTold_of_row (C := Tryf.checked) (s := OpenSpec.ofChange Rows.fnRangeInclusionSpec) mayEnter own started (by kernel_rfl) Tryf.func5
    (OpenSpec.witness_stopped_at (enc := enc) (C := Tryf.checked) false (laidWorldH os) #[.agg #[.int .u32 0, .int .u32 0, .int .u32 0], .int .i64 0, .slice none 0 0] rfl (by kernel_rfl) (by kernel_rfl) (by kernel_rfl)
      (OpenSpec.preRow_of_cond 8 hx (by kernel_rfl) (fun k hk => by cases hk) (by kernel_rfl) (laid_metH os #[.agg #[.int .u32 0, .int .u32 0, .int .u32 0], .int .i64 0, .slice none 0 0]))) ?_
  intro F W base args ds gs before _ hF hval hW _ _ _ hL _
  exact contract F H enc W base args ds gs before hF hval hW hL
theorem proved : Rows.FnRangeInclusionToldSaid :=
  Claim7.holds_of_told_tied_any_at .later 5 Tryf.f5 "fmt.errorf" [] [] _ _ _ _ _ (by kernel_rfl) rfl rfl rfl laidOut (by kernel_rfl) rfl ⟨rfl, rfl, rfl, rfl, rfl, rfl, rfl⟩ rfl rfl (by kernel_rfl) (by kernel_rfl) Tryf.func5 (by kernel_rfl)
    (of_decide_eq_true (by kernel_rfl)) (by unfold Func.isWrapper; first | (rw [if_pos (by decide +kernel)]; kernel_rfl) | (rw [if_neg (by decide +kernel)]; exact ⟨rfl, rfl⟩)) stopsAre.symm rfl stopKnobs.symm (by kernel_rfl)
    (by kernel_rfl) (by kernel_rfl) (by kernel_rfl) (by kernel_rfl) (by kernel_rfl) (by kernel_rfl) (by kernel_rfl) (by kernel_rfl) (by kernel_rfl) rfl (by kernel_rfl) rfl rfl
    rfl rfl
    rfl mainIs (by kernel_rfl) (by kernel_rfl) (by decide) (by kernel_rfl) fnRangeInclusion_row_tie
    (OpenClaim.moreEntering_of mayEnter (by kernel_rfl) (by kernel_rfl) (by kernel_rfl) (by kernel_rfl) (by kernel_rfl) (by kernel_rfl) (by kernel_rfl) liftsFinal.symm make)
    ⟨_, WideRow.started_initial, quiet _⟩
    (fun os started _ H enc _ => lifted os started H enc)
end Go.Proofs.YtobnmgnnidhfkaaFmt.fnRangeInclusion
