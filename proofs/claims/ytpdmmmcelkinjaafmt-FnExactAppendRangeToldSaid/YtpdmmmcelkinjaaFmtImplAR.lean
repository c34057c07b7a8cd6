/- impl.AppendRange. -/
import Derived.Test.YtpdmmmcelkinjaaFmtImplApp
import Derived.Test.YtpdmmmcelkinjaaFmtImplNew
import Derived.Test.YtpdmmmcelkinjaaFmtAppN
import Derived.Test.YtpdmmmcelkinjaaFmtAppR
namespace Go.Proofs.YtpdmmmcelkinjaaFmt
open Go.ChangeShapes Go.WideShapes Go.ChangeAt Go.RowKit Go.Extern.Stop Go.Stop Go.Extern
set_option maxRecDepth 20000
/-- What impl.AppendRange gives, everything a letter. -/
def RetARD (h : Pl.HF) (f : Nat → List Nat) (b m e : Nat) (w : World) (r : Ending) (w' : World) : Prop :=
  ∃ (A2 Ar A6 A7 : Option Addr) (c2 nr cr c6 c7 nH nG nE : Nat) (kb : Bool) (H : List (List Nat)) (R : List Nat) (G E : List SeenN), r = .returned (.tuple #[.agg #[.int .u64 (b : Int), .int .u64 (e : Int), .slice A2 nH c2, .slice Ar nr cr, .bool kb, .slice A6 nG c6, .slice A7 nE c7], .bool true]) ∧
    Hid (kb = decide (b = 0) ∧ H = Pl.ph h f b e ∧ R = Pl.rootAt h b H ∧ G = Pl.toldR h f b m e ∧ E = Pl.edgeAt h b e H ∧ nH = H.length ∧ nr = R.length ∧ nG = G.length ∧ nE = E.length) ∧
    Hid (BuiltT w' w.heap.size (.slice A2 nH c2) H ∧ BytesT w' (.slice Ar nr cr) R ∧ SeenB w' w.heap.size (.slice A6 nG c6) G ∧ SeenB w' w.heap.size (.slice A7 nE c7) E) ∧ Below w.heap.size w w'
theorem BuiltT.apart {W w : World} {base : Nat} {va vb : Value} {H1 H2 : List (List Nat)} (ha : BuiltT W base va H1) (hb : BuiltT w W.heap.size vb H2) : ∀ g, vb.ownBlock = some g → some g ≠ va.ownBlock := fun g hg e => by
  obtain ⟨us, _, ho, _⟩ := ha
  obtain ⟨vs, _, ho2, _⟩ := hb
  have h1 := ho.lt g e.symm
  have h2 := ho2.lt g hg
  omega
/-- What a round of the loops has: a range from b on that has k leaves. -/
def RangeIs (w : World) (base g gf : Nat) (h : Pl.HF) (f : Nat → List Nat) (b k : Nat) : Prop := ∃ hv, RangeB w g gf h b (b + k) hv ∧ BuiltT w base hv (Pl.ph h f b (b + k))
theorem RangeIs.below {w w' : World} {base g gf : Nat} {h : Pl.HF} {f : Nat → List Nat} {b k : Nat} (hr : RangeIs w base g gf h f b k) (hb : Below w.heap.size w w') : RangeIs w' base g gf h f b k := by
  obtain ⟨hv, h1, h2⟩ := hr
  exact ⟨hv, h1.keep (KeepT.of_below (ts := []) hb) (by simp) (by simp), h2.below hb⟩
theorem RangeIs.empty {w : World} {base g gf : Nat} {h : Pl.HF} (f : Nat → List Nat) {b : Nat} (hr : RangeB w g gf h b b (.slice none 0 0)) : RangeIs w base g gf h f b 0 := ⟨_, hr, by rw [ph_empty]; exact BuiltT.nil _ _⟩
set_option maxHeartbeats 8000000 in
/-- One behind the other. -/
theorem ar_d (F : Interp) (h : Pl.HF) (ok : h.ok) (f : Nat → List Nat) (b z e : Nat) (v u : Value) (L M : List (List Nat)) (w : World) (hz : z = b + L.length) (he : e = z + M.length) (hf1 : ∀ k (hk : k < L.length), f (b + k) = L[k]) (hf2 : ∀ k (hk : k < M.length), f (z + k) = M[k]) (hF : F.answers w.tape) (hv : HashesR w v L) (hu : HashesR w u M) (h2 : ∀ x ∈ L, x.length = 2) (h3 : ∀ x ∈ M, x.length = 2) (hb : e < 4611686018427387904) (hT : Tab w) :
    Calls Tryf.prog 26 #[hashV h, .int .u64 (b : Int), v, .int .u64 (z : Int), u] w (RetARD h f b z e w) := by
  have hfg : ∀ k (hk : k < M.length), f (z + k) = M[k] := hf2
  have hbz : b + L.length < 4611686018427387904 ∧ z + M.length < 4611686018427387904 := ⟨by omega, by omega⟩
  have htb : 0 < w.heap.size := World.block_lt_of_cell? w _ (hT 0 (by decide))
  obtain ⟨n1, n2, n3, n4⟩ := new_start w h
  have HST := Lib.hid (show _ ∧ _ ∧ _ ∧ _ from ⟨n1, n2, n3, n4⟩)
  have HU := Lib.hid hu
  obtain ⟨A, cap, rfl, hcap, hy, hat⟩ := hv
  obtain ⟨Au, cau, rfl, hcu, hyu, hatu⟩ := hu
  have HATU := Lib.hid hatu
  have HYU := Lib.hid hyu
  have H33 := Lib.hid h3
  have HF1 := Lib.hid hf1
  have HF2 := Lib.hid hf2
  have HZ := Lib.hid hz
  have HBZ := Lib.hid hbz
  have HF := Lib.hid hF
  have HT := Lib.hid hT
  have HY := Lib.hid hy
  have H2 := Lib.hid h2
  have HOK := Lib.hid ok
  obtain ⟨j0, hj, hy0, hy1, hy2⟩ := info_parts u8Info
  have HTB := Lib.hid htb
  clear hf1 hf2 hz hbz hF hT hy h2 ok htb hb n1 n2 n3 n4 hatu hyu h3 hcap hcu hfg
  have HE := Lib.hid he
  clear he
  obtain ⟨Ah, Bh, Ch⟩ := h
  unfold hashV
  simp only [] at HST ⊢
  go_enter Tryf.func26, Tryf.ntmps26
  go_wp2_with fail
  refine (empty_c _ _ _).mono ?_; rintro r w1 ⟨rfl, rfl⟩
  go_wp2_with fail
  generalize hh : (⟨Ah, Bh, Ch⟩ : Pl.HF) = h at HOK HST ⊢
  go_loopw [15, 28] (fun _ kv wr => ∃ k : Nat, k ≤ L.length ∧ kv = .int .i64 k ∧ Hid (Below w.heap.size w wr ∧ Blk wr (w.heap.size + 1) 31 #[.int .u64 0, .int .u64 0, .slice none 0 0, .slice none 0 0, .bool false, .slice none 0 0, .slice none 0 0] ∧ RangeIs wr (w.heap.size + 1 + 1) (w.heap.size + 1 + 1 + 1) (w.heap.size + 1 + 1) h f b k)) (fun _ kv _ => L.length - (intOf kv).toNat)
  case atStart =>
    subst hh
    obtain ⟨n1, n2, n3, n4⟩ := HST.out
    exact ⟨0, Nat.zero_le _, rfl, Lib.hid ⟨n1.alloc n1.size _, n2.alloc _, RangeIs.empty f ⟨Blk.new' _ _ _ n4.symm, n3.alloc _⟩⟩⟩
  case round =>
    obtain ⟨k, hk, rfl, KR⟩ := hrel
    by_cases hkl : k < L.length
    · obtain ⟨g8, o, rfl, hc⟩ := hat (by omega)
      obtain ⟨u, hu, hbr⟩ := hc k hkl
      have hl2 := H2.out L[k] (List.getElem_mem hkl)
      have HLV : Hid (f (b + k) = L[k]) := Lib.hid (HF1.out k hkl)
      have HYL := Lib.hid (HY.out L[k] (List.getElem_mem hkl))
      obtain ⟨hB, hG1, hvr, hRr, hBr⟩ := KR.out
      have hu' := (hB.cell (World.block_lt_of_cell? w _ hu)).trans hu
      have hbr' := hbr.below hB
      generalize L[k] = l at *
      obtain ⟨A2, n2, c2, rfl⟩ := hbr.form
      obtain ⟨hn2, hnews⟩ := BytesR.news hbr'
      rw [hl2] at hn2
      subst hn2
      have Hnews := Lib.hid hnews
      have HL2 := Lib.hid hl2
      have hk1 : (k : Int) < (L.length : Int) := by omega
      have hk0 : (0 : Int) ≤ (k : Int) := by omega
      have HBk := Lib.hid hB
      have HRk := Lib.hid hRr
      have HHk := Lib.hid hBr
      have HGk := Lib.hid hG1
      clear hc hbr hu hnews hbr' hB hRr hBr hG1 hat hl2
      go_wp2_with (first
        | (at_builtin
           refine wpList_append_list rfl (.tmp 33) (.tmp 34) 28 rfl wr.heap.size 5 j0 (.int .u8 0) 1 1 Tryf.underlying28 hj hy0 hy1 hy2 rfl (by decide) _ 0 [] rfl (World.ownsRow_lit _ _ 0 (Nat.le_refl _) (by unfold maxLen; omega) rfl) A2 2 c2 (u8Cells l) rfl (by simp [u8Cells, HL2.out]) (fun h => by obtain ⟨ad, e, h⟩ := Hnews.out h; exact ⟨ad, e, fun j u hu => by rw [← h j u hu]; exact ((Below.refl wr.heap.size wr).alloc (Nat.le_refl _) _).cell (World.block_lt_of_cell? wr _ (h j u hu))⟩) (u8_one l) (by unfold maxLen; omega) (by omega) (by simp) ?_
           intro v1 w1 hown1 hg1 _
           obtain ⟨A1, c1, rfl, _⟩ := own_slice hown1
           have hB1 : Below wr.heap.size wr w1 := ((Below.refl wr.heap.size wr).alloc (Nat.le_refl _) _).grown hg1 (by simp) (fun j hj => by have hj' : some wr.heap.size = some j := hj; injection hj' with hj'; omega)
           have hown2 : w1.ownsRow wr.heap.size 5 1 (.slice A1 2 c1) l.length (u8Cells l) := by rw [HL2.out]; simpa using hown1
           have BT := BytesT.of_own hown2 HYL.out
           obtain ⟨gu, ou, cu, eU⟩ := BT.form2 HL2.out
           injection eU with eU1 eU2 eU3
           clear hown1 hown2 hg1
           subst eU1 eU3)
        | fail)
      have hK1 := KeepT.of_below (ts := []) hB1
      have hB2 : Below w.heap.size w w1 := HBk.out.trans (hB1.mono HBk.out.size)
      have hbk : b + k + 1 < 4611686018427387904 := by have := HBZ.out; omega
      rw [← HLV.out] at BT HL2
      refine (append_N h HOK.out f (w.heap.size + 1 + 1 + 1) (w.heap.size + 1 + 1) (w.heap.size + 1 + 1) b (b + k) hvr gu ou c1 w1 (Nat.le_add_right _ _) (by omega) (HT.out.below hB2) (HRk.out.keep hK1 (by simp) (by simp)) (HHk.out.keep hK1 (by simp) (by simp)) (by omega) BT HL2.out).mono ?_
      rintro r w4 ⟨rfl, k1, k2, hv4, k3, k4⟩
      go_wp2_with fail
      go_roundw
      case rel => exact ⟨k + 1, by omega, by go_num, Lib.hid ⟨hB2.trans (k2.mono (by omega)), (HGk.out.below' hB1).below k2 (by omega), hv4, k3, k4⟩⟩
      case measure => simp [intOf] <;> omega
    · obtain rfl : k = L.length := by omega
      have hk1 : ¬ (L.length : Int) < (L.length : Int) := by omega
      have HK1 := Lib.hid KR.out
      clear hat KR hkl hk
      go_wp2_with fail
      refine (empty_c _ _ _).mono ?_; rintro r w5 ⟨rfl, rfl⟩
      go_wp2_with fail
      obtain ⟨W1, rfl⟩ : ∃ W1 : World, W1 = wr := ⟨_, rfl⟩
      go_loopw [18, 44] (fun _ kv wr => ∃ k : Nat, k ≤ M.length ∧ kv = .int .i64 k ∧ Hid (Below W1.heap.size W1 wr ∧ RangeIs wr W1.heap.size W1.heap.size (w.heap.size + 1 + 1) h f z k)) (fun _ kv _ => M.length - (intOf kv).toNat)
      case atStart =>
        obtain ⟨hB, hG1, hvr, hRr, hBr⟩ := HK1.out
        have B1 := (Below.refl W1.heap.size W1).alloc (Nat.le_refl _) (.cells #[.pointer (some ⟨w.heap.size + 1 + 1, 0, none⟩), .int .u64 (z : Int), .int .u64 (z : Int), .slice none 0 0] 82)
        exact ⟨0, Nat.zero_le _, rfl, Lib.hid ⟨B1, RangeIs.empty f ⟨Blk.new _ _ _, hRr.2.below' B1⟩⟩⟩
      case round =>
        obtain ⟨k, hk, rfl, KR⟩ := hrel
        obtain ⟨hBi, hRi⟩ := KR.out
        have hB1w : Below w.heap.size w W1 := HK1.out.1
        have HBw := Lib.hid (hB1w.trans (hBi.mono hB1w.size))
        have HB1 := Lib.hid hBi
        have HRi := Lib.hid hRi
        clear hBi hRi hB1w
        by_cases hkl : k < M.length
        · obtain ⟨g8, o, rfl, hc⟩ := HATU.out (by omega)
          obtain ⟨u, hu, hbr⟩ := hc k hkl
          have hl2 := H33.out M[k] (List.getElem_mem hkl)
          have HLV : Hid (f (z + k) = M[k]) := Lib.hid (HF2.out k hkl)
          have HYL := Lib.hid (HYU.out M[k] (List.getElem_mem hkl))
          obtain ⟨hvr, hRr, hBr⟩ := HRi.out
          have hu' := (HBw.out.cell (World.block_lt_of_cell? w _ hu)).trans hu
          have hbr' := hbr.below HBw.out
          generalize M[k] = l at *
          obtain ⟨A2, n2, c2, rfl⟩ := hbr.form
          obtain ⟨hn2, hnews⟩ := BytesR.news hbr'
          rw [hl2] at hn2
          subst hn2
          have Hnews := Lib.hid hnews
          have HL2 := Lib.hid hl2
          have hk1 : (k : Int) < (M.length : Int) := by omega
          have hk0 : (0 : Int) ≤ (k : Int) := by omega
          have HRk := Lib.hid hRr
          have HHk := Lib.hid hBr
          clear hc hbr hu hnews hbr' hRr hBr hl2
          go_wp2_with (first
            | (at_builtin
               refine wpList_append_list rfl (.tmp 49) (.tmp 50) 28 rfl wr.heap.size 5 j0 (.int .u8 0) 1 1 Tryf.underlying28 hj hy0 hy1 hy2 rfl (by decide) _ 0 [] rfl (World.ownsRow_lit _ _ 0 (Nat.le_refl _) (by unfold maxLen; omega) rfl) A2 2 c2 (u8Cells l) rfl (by simp [u8Cells, HL2.out]) (fun h => by obtain ⟨ad, e, h⟩ := Hnews.out h; exact ⟨ad, e, fun j u hu => by rw [← h j u hu]; exact ((Below.refl wr.heap.size wr).alloc (Nat.le_refl _) _).cell (World.block_lt_of_cell? wr _ (h j u hu))⟩) (u8_one l) (by unfold maxLen; omega) (by omega) (by simp) ?_
               intro v1 w1 hown1 hg1 _
               obtain ⟨A1, c1, rfl, _⟩ := own_slice hown1
               have hB1 : Below wr.heap.size wr w1 := ((Below.refl wr.heap.size wr).alloc (Nat.le_refl _) _).grown hg1 (by simp) (fun j hj => by have hj' : some wr.heap.size = some j := hj; injection hj' with hj'; omega)
               have hown2 : w1.ownsRow wr.heap.size 5 1 (.slice A1 2 c1) l.length (u8Cells l) := by rw [HL2.out]; simpa using hown1
               have BT := BytesT.of_own hown2 HYL.out
               obtain ⟨gu, ou, cu, eU⟩ := BT.form2 HL2.out
               injection eU with eU1 eU2 eU3
               clear hown1 hown2 hg1
               subst eU1 eU3)
            | fail)
          have hK1 := KeepT.of_below (ts := []) hB1
          have hB2 : Below w.heap.size w w1 := HBw.out.trans (hB1.mono HBw.out.size)
          have hbk : z + k + 1 < 4611686018427387904 := by have := HBZ.out; omega
          rw [← HLV.out] at BT HL2
          refine (append_N h HOK.out f W1.heap.size (w.heap.size + 1 + 1) W1.heap.size z (z + k) hvr gu ou c1 w1 (Nat.le_add_right _ _) (by omega) (HT.out.below hB2) (HRk.out.keep hK1 (by simp) (by simp)) (HHk.out.keep hK1 (by simp) (by simp)) (Nat.le_refl _) BT HL2.out).mono ?_
          rintro r w4 ⟨rfl, k1, k2, hv4, k3, k4⟩
          go_wp2_with fail
          go_roundw
          case rel => exact ⟨k + 1, by omega, by go_num, Lib.hid ⟨(HB1.out.trans (hB1.mono HB1.out.size)).trans k2, hv4, k3, k4⟩⟩
          case measure => simp [intOf] <;> omega
        · obtain rfl : k = M.length := by omega
          have hk1 : ¬ (M.length : Int) < (M.length : Int) := by omega
          obtain ⟨hB, hG1, hva, hRa, hBa⟩ := HK1.out
          obtain ⟨hvb, hRb, hBb⟩ := HRi.out
          have hap := hBa.apart hBb
          have KA := KeepT.of_below (ts := []) HB1.out
          have HRA := Lib.hid (hRa.keep KA (by simp) (by simp))
          have HBA := Lib.hid (hBa.keep KA (by simp) (by simp))
          have HRB := Lib.hid hRb
          have HBB := Lib.hid hBb
          have HAP := Lib.hid hap
          have HG1 := Lib.hid (hG1.below' HB1.out)
          have hgb : W1.heap.size < wr.heap.size := hRb.1.lt
          have hga : w.heap.size + 1 + 1 < wr.heap.size := Nat.lt_of_le_of_lt (Nat.le_of_lt hRa.2.lt) hgb
          have HLT := Lib.hid (show W1.heap.size < wr.heap.size ∧ w.heap.size + 1 + 1 < wr.heap.size from ⟨hgb, hga⟩)
          clear hB hG1 hRa hBa hRb hBb hap KA hgb hga KR HK1 HRi hkl hk
          have B1 := (Below.refl wr.heap.size wr).alloc (Nat.le_refl _) (.cells #[] 47)
          have B2 := B1.alloc B1.size (.cells #[.slice (some ⟨wr.heap.size, 0, none⟩) 0 0] 29)
          have KV := Blk.new' (wr.alloc (.cells #[] 47)) 29 #[.slice (some ⟨wr.heap.size, 0, none⟩) 0 0] (g := wr.heap.size + 1) (by simp)
          have SV : SeenB ((wr.alloc (.cells #[] 47)).alloc (.cells #[.slice (some ⟨wr.heap.size, 0, none⟩) 0 0] 29)) (w.heap.size + 1 + 1) (.slice (some ⟨wr.heap.size, 0, none⟩) 0 0) [] := ⟨[], rfl, (World.ownsRow_lit (base := w.heap.size + 1 + 1) (e := 47) (size := 3) wr #[] 0 (by have := HLT.out.2; omega) (by unfold maxLen; omega) rfl).alloc _, fun k u s hu => by simp at hu⟩
          have HB2 := Lib.hid B2
          have HKV := Lib.hid KV
          have HSV := Lib.hid SV
          clear B1 B2 KV SV
          clear hj hy0 hy1 hy2
          go_wp2_with fail
          generalize (wr.alloc (.cells #[] 47)).alloc (.cells #[.slice (some ⟨wr.heap.size, 0, none⟩) 0 0] 29) = w6 at *
          have KW := KeepT.of_below (ts := []) HB2.out
          have BW6 := HBw.out.trans (HB2.out.mono HBw.out.size)
          refine (appR_c h HOK.out f (w.heap.size + 1 + 1 + 1) W1.heap.size (w.heap.size + 1 + 1) (w.heap.size + 1 + 1) W1.heap.size b z e (wr.heap.size + 1) hva hvb (.slice (some ⟨wr.heap.size, 0, none⟩) 0 0) w6 (by have := HZ.out; omega) (by have := HE.out; omega) (by have := HE.out; have := HBZ.out; omega) (HT.out.below BW6) (by rw [HZ.out]; exact HRA.out.keep KW (by simp) (by simp)) (by rw [HZ.out]; exact HBA.out.keep KW (by simp) (by simp)) (by omega) (by rw [HE.out]; exact HRB.out.keep KW (by simp) (by simp)) (by rw [HE.out]; exact HBB.out.keep KW (by simp) (by simp)) HAP.out HKV.out HSV.out (by have := HLT.out.2; omega)).mono ?_
          rintro r w7 ⟨rfl, hb7, hv7, k1, k2, av7, k3, k4⟩
          obtain ⟨A6, c6, rfl⟩ := k4.form
          have BW7 := BW6.trans (hb7.mono (by omega))
          have HG7 := Lib.hid ((HG1.out.below' HB2.out).below hb7 (by omega))
          have HRO := Lib.hid (rangeOf_c F h HOK.out (w.heap.size + 1 + 1 + 1) (w.heap.size + 1 + 1) _ b e hv7 _ A6 (Pl.toldR h f b z e).length c6 w7 (by have := HE.out; have := HBZ.out; omega) (ans_below HF.out BW7) (HT.out.below BW7) k1 k2 (by rw [Pl.ph_length]))
          have c65 := k3.cell 0
          have HS7 := Lib.hid k4
          have HB7 := Lib.hid BW7
          clear k1 k2 k3 k4 hb7 BW6 BW7 KW
          have HN6 := Lib.hid (show (Pl.toldR h f b z e).length = (Pl.toldR h f b z e).length from rfl)
          generalize hG : Pl.toldR h f b z e = G at *
          have HGG := Lib.hid hG
          clear hG
          generalize hn6 : G.length = n6 at *
          have HN6' := Lib.hid hn6
          clear hn6 HN6
          go_wp2_with fail
          refine HRO.out.mono ?_; rintro r w8 ⟨v2, rv, ev, rfl, k1, k2, k3, k4⟩
          obtain ⟨A2, c2, rfl, _⟩ := k1.form
          obtain ⟨Ar, nr, cr, rfl⟩ := k2.1.form
          obtain ⟨A7, c7, rfl⟩ := k3.form
          have HG8 := Lib.hid (HG7.out.below' k4)
          obtain ⟨y0, y1, y2, y3, y4, y5, y6, f0, f1, f2, f3, f4, f5, f6⟩ := HG8.out.seven
          have K1 := Lib.hid k1
          have K2 := Lib.hid k2
          have K3 := Lib.hid k3
          have K4 := Lib.hid k4
          have HNR := Lib.hid (show nr = (Pl.rootAt h b (Pl.ph h f b e)).length from by obtain ⟨A, c, e1, _⟩ := k2.1; injection e1)
          clear k1 k2 k3 k4 HRO
          generalize hkb : decide (b = 0) = kb at *
          generalize hH : Pl.ph h f b e = H at *
          generalize hR : Pl.rootAt h b H = R at *
          generalize hE : Pl.edgeAt h b e H = E at *
          have HQ := Lib.hid (show kb = decide (b = 0) ∧ H = Pl.ph h f b e ∧ R = Pl.rootAt h b H ∧ E = Pl.edgeAt h b e H from ⟨hkb.symm, hH.symm, hR.symm, hE.symm⟩)
          clear hkb hH hR hE
          generalize hnH : H.length = nH at *
          generalize hnE : E.length = nE at *
          have HL := Lib.hid (show nH = H.length ∧ nE = E.length from ⟨hnH.symm, hnE.symm⟩)
          clear hnH hnE
          go_wp2_with fail
          obtain ⟨q1, q2, q3⟩ := set7 HG8.out (.int .u64 (b : Int)) (.int .u64 (e : Int)) (.slice A2 nH c2) (.slice Ar nr cr) (.bool kb) (.slice A6 n6 c6) (.slice A7 nE c7)
          refine bodyPost_ret (v := .tuple #[.agg #[.int .u64 (b : Int), .int .u64 (e : Int), .slice A2 nH c2, .slice Ar nr cr, .bool kb, .slice A6 n6 c6, .slice A7 nE c7], .bool true]) (results_row_tmp rfl _ _ (w.heap.size + 1) 31 _ (0, 0) _ _ rfl rfl q1 Tryf.underlying31 rfl (by kernel_rfl)) rfl ?_
          have BB : Below w.heap.size w w8 := HB7.out.trans (K4.out.mono HB7.out.size)
          subst hh
          refine ⟨A2, Ar, A6, A7, c2, nr, cr, c6, c7, nH, n6, nE, kb, H, R, G, E, rfl, Lib.hid ⟨HQ.out.1, HQ.out.2.1, HQ.out.2.2.1, HGG.out.symm, HQ.out.2.2.2, HL.out.1, HNR.out, HN6'.out.symm, HL.out.2⟩, Lib.hid ⟨?_, ?_, ?_, ?_⟩, BB.trans (q3.mono (by omega))⟩
          · exact (K1.out.keep q2 (by decide) (by decide)).mono HB7.out.size
          · exact K2.out.keep q2 (by decide)
          · exact ((HS7.out.below K4.out).keep q2 (by decide) (by decide)).mono (by omega)
          · exact (K3.out.keep q2 (by decide) (by decide)).mono HB7.out.size
set_option maxHeartbeats 8000000 in
/-- Elsewhere. -/
theorem ar_no (F : Interp) (h : Pl.HF) (ok : h.ok) (f g : Nat → List Nat) (b z : Nat) (v u : Value) (L M : List (List Nat)) (w : World) (hz : z ≠ b + L.length) (hf1 : ∀ k (hk : k < L.length), f (b + k) = L[k]) (hf2 : ∀ k (hk : k < M.length), g (z + k) = M[k]) (hF : F.answers w.tape) (hv : HashesR w v L) (hu : HashesR w u M) (h2 : ∀ x ∈ L, x.length = 2) (h3 : ∀ x ∈ M, x.length = 2) (hb : b + L.length < 4611686018427387904 ∧ z + M.length < 4611686018427387904) (hT : Tab w) :
    Calls Tryf.prog 26 #[hashV h, .int .u64 (b : Int), v, .int .u64 (z : Int), u] w fun r w' => r = .returned (.tuple #[.agg #[.int .u64 0, .int .u64 0, .slice none 0 0, .slice none 0 0, .bool false, .slice none 0 0, .slice none 0 0], .bool false]) ∧ Below w.heap.size w w' := by
  have hbz := hb
  have htb : 0 < w.heap.size := World.block_lt_of_cell? w _ (hT 0 (by decide))
  obtain ⟨n1, n2, n3, n4⟩ := new_start w h
  have HST := Lib.hid (show _ ∧ _ ∧ _ ∧ _ from ⟨n1, n2, n3, n4⟩)
  have HU := Lib.hid hu
  obtain ⟨A, cap, rfl, hcap, hy, hat⟩ := hv
  obtain ⟨Au, cau, rfl, hcu, hyu, hatu⟩ := hu
  have HATU := Lib.hid hatu
  have HYU := Lib.hid hyu
  have H33 := Lib.hid h3
  have HF1 := Lib.hid hf1
  have HF2 := Lib.hid hf2
  have HZ := Lib.hid hz
  have HBZ := Lib.hid hbz
  have HF := Lib.hid hF
  have HT := Lib.hid hT
  have HY := Lib.hid hy
  have H2 := Lib.hid h2
  have HOK := Lib.hid ok
  obtain ⟨j0, hj, hy0, hy1, hy2⟩ := info_parts u8Info
  have HTB := Lib.hid htb
  clear hf1 hf2 hz hbz hF hT hy h2 ok htb hb n1 n2 n3 n4 hatu hyu h3 hcap hcu
  obtain ⟨Ah, Bh, Ch⟩ := h
  unfold hashV
  simp only [] at HST ⊢
  go_enter Tryf.func26, Tryf.ntmps26
  go_wp2_with fail
  refine (empty_c _ _ _).mono ?_; rintro r w1 ⟨rfl, rfl⟩
  go_wp2_with fail
  generalize hh : (⟨Ah, Bh, Ch⟩ : Pl.HF) = h at HOK HST ⊢
  go_loopw [15, 28] (fun _ kv wr => ∃ k : Nat, k ≤ L.length ∧ kv = .int .i64 k ∧ Hid (Below w.heap.size w wr ∧ Blk wr (w.heap.size + 1) 31 #[.int .u64 0, .int .u64 0, .slice none 0 0, .slice none 0 0, .bool false, .slice none 0 0, .slice none 0 0] ∧ RangeIs wr (w.heap.size + 1 + 1) (w.heap.size + 1 + 1 + 1) (w.heap.size + 1 + 1) h f b k)) (fun _ kv _ => L.length - (intOf kv).toNat)
  case atStart =>
    subst hh
    obtain ⟨n1, n2, n3, n4⟩ := HST.out
    exact ⟨0, Nat.zero_le _, rfl, Lib.hid ⟨n1.alloc n1.size _, n2.alloc _, RangeIs.empty f ⟨Blk.new' _ _ _ n4.symm, n3.alloc _⟩⟩⟩
  case round =>
    obtain ⟨k, hk, rfl, KR⟩ := hrel
    by_cases hkl : k < L.length
    · obtain ⟨g8, o, rfl, hc⟩ := hat (by omega)
      obtain ⟨u, hu, hbr⟩ := hc k hkl
      have hl2 := H2.out L[k] (List.getElem_mem hkl)
      have HLV : Hid (f (b + k) = L[k]) := Lib.hid (HF1.out k hkl)
      have HYL := Lib.hid (HY.out L[k] (List.getElem_mem hkl))
      obtain ⟨hB, hG1, hvr, hRr, hBr⟩ := KR.out
      have hu' := (hB.cell (World.block_lt_of_cell? w _ hu)).trans hu
      have hbr' := hbr.below hB
      generalize L[k] = l at *
      obtain ⟨A2, n2, c2, rfl⟩ := hbr.form
      obtain ⟨hn2, hnews⟩ := BytesR.news hbr'
      rw [hl2] at hn2
      subst hn2
      have Hnews := Lib.hid hnews
      have HL2 := Lib.hid hl2
      have hk1 : (k : Int) < (L.length : Int) := by omega
      have hk0 : (0 : Int) ≤ (k : Int) := by omega
      have HBk := Lib.hid hB
      have HRk := Lib.hid hRr
      have HHk := Lib.hid hBr
      have HGk := Lib.hid hG1
      clear hc hbr hu hnews hbr' hB hRr hBr hG1 hat hl2
      go_wp2_with (first
        | (at_builtin
           refine wpList_append_list rfl (.tmp 33) (.tmp 34) 28 rfl wr.heap.size 5 j0 (.int .u8 0) 1 1 Tryf.underlying28 hj hy0 hy1 hy2 rfl (by decide) _ 0 [] rfl (World.ownsRow_lit _ _ 0 (Nat.le_refl _) (by unfold maxLen; omega) rfl) A2 2 c2 (u8Cells l) rfl (by simp [u8Cells, HL2.out]) (fun h => by obtain ⟨ad, e, h⟩ := Hnews.out h; exact ⟨ad, e, fun j u hu => by rw [← h j u hu]; exact ((Below.refl wr.heap.size wr).alloc (Nat.le_refl _) _).cell (World.block_lt_of_cell? wr _ (h j u hu))⟩) (u8_one l) (by unfold maxLen; omega) (by omega) (by simp) ?_
           intro v1 w1 hown1 hg1 _
           obtain ⟨A1, c1, rfl, _⟩ := own_slice hown1
           have hB1 : Below wr.heap.size wr w1 := ((Below.refl wr.heap.size wr).alloc (Nat.le_refl _) _).grown hg1 (by simp) (fun j hj => by have hj' : some wr.heap.size = some j := hj; injection hj' with hj'; omega)
           have hown2 : w1.ownsRow wr.heap.size 5 1 (.slice A1 2 c1) l.length (u8Cells l) := by rw [HL2.out]; simpa using hown1
           have BT := BytesT.of_own hown2 HYL.out
           obtain ⟨gu, ou, cu, eU⟩ := BT.form2 HL2.out
           injection eU with eU1 eU2 eU3
           clear hown1 hown2 hg1
           subst eU1 eU3)
        | fail)
      have hK1 := KeepT.of_below (ts := []) hB1
      have hB2 : Below w.heap.size w w1 := HBk.out.trans (hB1.mono HBk.out.size)
      have hbk : b + k + 1 < 4611686018427387904 := by have := HBZ.out; omega
      rw [← HLV.out] at BT HL2
      refine (append_N h HOK.out f (w.heap.size + 1 + 1 + 1) (w.heap.size + 1 + 1) (w.heap.size + 1 + 1) b (b + k) hvr gu ou c1 w1 (Nat.le_add_right _ _) (by omega) (HT.out.below hB2) (HRk.out.keep hK1 (by simp) (by simp)) (HHk.out.keep hK1 (by simp) (by simp)) (by omega) BT HL2.out).mono ?_
      rintro r w4 ⟨rfl, k1, k2, hv4, k3, k4⟩
      go_wp2_with fail
      go_roundw
      case rel => exact ⟨k + 1, by omega, by go_num, Lib.hid ⟨hB2.trans (k2.mono (by omega)), (HGk.out.below' hB1).below k2 (by omega), hv4, k3, k4⟩⟩
      case measure => simp [intOf] <;> omega
    · obtain rfl : k = L.length := by omega
      have hk1 : ¬ (L.length : Int) < (L.length : Int) := by omega
      have HK1 := Lib.hid KR.out
      clear hat KR hkl hk
      go_wp2_with fail
      refine (empty_c _ _ _).mono ?_; rintro r w5 ⟨rfl, rfl⟩
      go_wp2_with fail
      obtain ⟨W1, rfl⟩ : ∃ W1 : World, W1 = wr := ⟨_, rfl⟩
      go_loopw [18, 44] (fun _ kv wr => ∃ k : Nat, k ≤ M.length ∧ kv = .int .i64 k ∧ Hid (Below W1.heap.size W1 wr ∧ RangeIs wr W1.heap.size W1.heap.size (w.heap.size + 1 + 1) h g z k)) (fun _ kv _ => M.length - (intOf kv).toNat)
      case atStart =>
        obtain ⟨hB, hG1, hvr, hRr, hBr⟩ := HK1.out
        have B1 := (Below.refl W1.heap.size W1).alloc (Nat.le_refl _) (.cells #[.pointer (some ⟨w.heap.size + 1 + 1, 0, none⟩), .int .u64 (z : Int), .int .u64 (z : Int), .slice none 0 0] 82)
        exact ⟨0, Nat.zero_le _, rfl, Lib.hid ⟨B1, RangeIs.empty g ⟨Blk.new _ _ _, hRr.2.below' B1⟩⟩⟩
      case round =>
        obtain ⟨k, hk, rfl, KR⟩ := hrel
        obtain ⟨hBi, hRi⟩ := KR.out
        have hB1w : Below w.heap.size w W1 := HK1.out.1
        have HBw := Lib.hid (hB1w.trans (hBi.mono hB1w.size))
        have HB1 := Lib.hid hBi
        have HRi := Lib.hid hRi
        clear hBi hRi hB1w
        by_cases hkl : k < M.length
        · obtain ⟨g8, o, rfl, hc⟩ := HATU.out (by omega)
          obtain ⟨u, hu, hbr⟩ := hc k hkl
          have hl2 := H33.out M[k] (List.getElem_mem hkl)
          have HLV : Hid (g (z + k) = M[k]) := Lib.hid (HF2.out k hkl)
          have HYL := Lib.hid (HYU.out M[k] (List.getElem_mem hkl))
          obtain ⟨hvr, hRr, hBr⟩ := HRi.out
          have hu' := (HBw.out.cell (World.block_lt_of_cell? w _ hu)).trans hu
          have hbr' := hbr.below HBw.out
          generalize M[k] = l at *
          obtain ⟨A2, n2, c2, rfl⟩ := hbr.form
          obtain ⟨hn2, hnews⟩ := BytesR.news hbr'
          rw [hl2] at hn2
          subst hn2
          have Hnews := Lib.hid hnews
          have HL2 := Lib.hid hl2
          have hk1 : (k : Int) < (M.length : Int) := by omega
          have hk0 : (0 : Int) ≤ (k : Int) := by omega
          have HRk := Lib.hid hRr
          have HHk := Lib.hid hBr
          clear hc hbr hu hnews hbr' hRr hBr hl2
          go_wp2_with (first
            | (at_builtin
               refine wpList_append_list rfl (.tmp 49) (.tmp 50) 28 rfl wr.heap.size 5 j0 (.int .u8 0) 1 1 Tryf.underlying28 hj hy0 hy1 hy2 rfl (by decide) _ 0 [] rfl (World.ownsRow_lit _ _ 0 (Nat.le_refl _) (by unfold maxLen; omega) rfl) A2 2 c2 (u8Cells l) rfl (by simp [u8Cells, HL2.out]) (fun h => by obtain ⟨ad, e, h⟩ := Hnews.out h; exact ⟨ad, e, fun j u hu => by rw [← h j u hu]; exact ((Below.refl wr.heap.size wr).alloc (Nat.le_refl _) _).cell (World.block_lt_of_cell? wr _ (h j u hu))⟩) (u8_one l) (by unfold maxLen; omega) (by omega) (by simp) ?_
               intro v1 w1 hown1 hg1 _
               obtain ⟨A1, c1, rfl, _⟩ := own_slice hown1
               have hB1 : Below wr.heap.size wr w1 := ((Below.refl wr.heap.size wr).alloc (Nat.le_refl _) _).grown hg1 (by simp) (fun j hj => by have hj' : some wr.heap.size = some j := hj; injection hj' with hj'; omega)
               have hown2 : w1.ownsRow wr.heap.size 5 1 (.slice A1 2 c1) l.length (u8Cells l) := by rw [HL2.out]; simpa using hown1
               have BT := BytesT.of_own hown2 HYL.out
               obtain ⟨gu, ou, cu, eU⟩ := BT.form2 HL2.out
               injection eU with eU1 eU2 eU3
               clear hown1 hown2 hg1
               subst eU1 eU3)
            | fail)
          have hK1 := KeepT.of_below (ts := []) hB1
          have hB2 : Below w.heap.size w w1 := HBw.out.trans (hB1.mono HBw.out.size)
          have hbk : z + k + 1 < 4611686018427387904 := by have := HBZ.out; omega
          rw [← HLV.out] at BT HL2
          refine (append_N h HOK.out g W1.heap.size (w.heap.size + 1 + 1) W1.heap.size z (z + k) hvr gu ou c1 w1 (Nat.le_add_right _ _) (by omega) (HT.out.below hB2) (HRk.out.keep hK1 (by simp) (by simp)) (HHk.out.keep hK1 (by simp) (by simp)) (Nat.le_refl _) BT HL2.out).mono ?_
          rintro r w4 ⟨rfl, k1, k2, hv4, k3, k4⟩
          go_wp2_with fail
          go_roundw
          case rel => exact ⟨k + 1, by omega, by go_num, Lib.hid ⟨(HB1.out.trans (hB1.mono HB1.out.size)).trans k2, hv4, k3, k4⟩⟩
          case measure => simp [intOf] <;> omega
        · obtain rfl : k = M.length := by omega
          have hk1 : ¬ (M.length : Int) < (M.length : Int) := by omega
          obtain ⟨hB, hG1, hva, hRa, hBa⟩ := HK1.out
          obtain ⟨hvb, hRb, hBb⟩ := HRi.out
          have hap := hBa.apart hBb
          have KA := KeepT.of_below (ts := []) HB1.out
          have HRA := Lib.hid (hRa.keep KA (by simp) (by simp))
          have HBA := Lib.hid (hBa.keep KA (by simp) (by simp))
          have HRB := Lib.hid hRb
          have HBB := Lib.hid hBb
          have HAP := Lib.hid hap
          have HG1 := Lib.hid (hG1.below' HB1.out)
          have hgb : W1.heap.size < wr.heap.size := hRb.1.lt
          have hga : w.heap.size + 1 + 1 < wr.heap.size := Nat.lt_of_le_of_lt (Nat.le_of_lt hRa.2.lt) hgb
          have HLT := Lib.hid (show W1.heap.size < wr.heap.size ∧ w.heap.size + 1 + 1 < wr.heap.size from ⟨hgb, hga⟩)
          clear hB hG1 hRa hBa hRb hBb hap KA hgb hga KR HK1 HRi hkl hk
          have B1 := (Below.refl wr.heap.size wr).alloc (Nat.le_refl _) (.cells #[] 47)
          have B2 := B1.alloc B1.size (.cells #[.slice (some ⟨wr.heap.size, 0, none⟩) 0 0] 29)
          have KV := Blk.new' (wr.alloc (.cells #[] 47)) 29 #[.slice (some ⟨wr.heap.size, 0, none⟩) 0 0] (g := wr.heap.size + 1) (by simp)
          have SV : SeenB ((wr.alloc (.cells #[] 47)).alloc (.cells #[.slice (some ⟨wr.heap.size, 0, none⟩) 0 0] 29)) (w.heap.size + 1 + 1) (.slice (some ⟨wr.heap.size, 0, none⟩) 0 0) [] := ⟨[], rfl, (World.ownsRow_lit (base := w.heap.size + 1 + 1) (e := 47) (size := 3) wr #[] 0 (by have := HLT.out.2; omega) (by unfold maxLen; omega) rfl).alloc _, fun k u s hu => by simp at hu⟩
          have HB2 := Lib.hid B2
          have HKV := Lib.hid KV
          have HSV := Lib.hid SV
          clear B1 B2 KV SV
          clear hj hy0 hy1 hy2
          go_wp2_with fail
          generalize (wr.alloc (.cells #[] 47)).alloc (.cells #[.slice (some ⟨wr.heap.size, 0, none⟩) 0 0] 29) = w6 at *
          have KW := KeepT.of_below (ts := []) HB2.out
          have BW6 := HBw.out.trans (HB2.out.mono HBw.out.size)
          refine (appR_no F h (w.heap.size + 1 + 1 + 1) W1.heap.size (w.heap.size + 1 + 1) b (b + L.length) z (z + M.length) hva hvb _ w6 (ans_below HF.out BW6) HZ.out (HRA.out.keep KW (by simp) (by simp)) (HRB.out.keep KW (by simp) (by simp))).mono ?_
          rintro r w7 ⟨⟨gE, rfl⟩, hb7⟩
          have BW7 := BW6.trans (hb7.mono BW6.size)
          have HG7 := Lib.hid ((HG1.out.below' HB2.out).below' hb7)
          obtain ⟨y0, y1, y2, y3, y4, y5, y6, f0, f1, f2, f3, f4, f5, f6⟩ := HG7.out.seven
          have HB7 := Lib.hid BW7
          clear hb7 BW6 BW7 KW
          go_wp2_with fail
          obtain ⟨q1, q2, q3⟩ := set7 HG7.out (.int .u64 0) (.int .u64 0) (.slice none 0 0) (.slice none 0 0) (.bool false) (.slice none 0 0) (.slice none 0 0)
          refine bodyPost_ret (v := .tuple #[.agg #[.int .u64 0, .int .u64 0, .slice none 0 0, .slice none 0 0, .bool false, .slice none 0 0, .slice none 0 0], .bool false]) (results_row_tmp rfl _ _ (w.heap.size + 1) 31 _ (0, 0) _ _ rfl rfl q1 Tryf.underlying31 rfl (by kernel_rfl)) rfl ?_
          exact ⟨rfl, HB7.out.trans (q3.mono (by omega))⟩
end Go.Proofs.YtpdmmmcelkinjaaFmt
