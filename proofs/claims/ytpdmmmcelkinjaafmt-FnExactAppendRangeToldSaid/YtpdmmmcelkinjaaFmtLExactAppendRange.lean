/- Two ranges one behind the other are the range of all leaves; others are an error. -/
import Derived.Deep.DeepCutAuto
import Derived.Test.YtpdmmmcelkinjaaFmtImplAR
import Derived.Test.YtpdmmmcelkinjaaFmtAll
import Derived.Test.YtpdmmmcelkinjaaFmtNode
import Derived.Test.YtpdmmmcelkinjaaFmtPieceH
import Derived.Test.YtpdmmmcelkinjaaFmtOpen
namespace Go.Proofs.YtpdmmmcelkinjaaFmt.fnExactAppendRange
open Go.ChangeShapes Go.WideShapes Go.ChangeAt Go.RowKit
set_option maxRecDepth 100000
theorem lv_left (P Q : List (List Nat)) (b : Nat) : ∀ k (hk : k < P.length), Pl.lv (P ++ Q) b (b + k) = P[k] := fun k hk => by
  unfold Pl.lv Pl.atL
  rw [Nat.add_sub_cancel_left, List.getD_eq_getElem?_getD, List.getElem?_append_left hk, List.getElem?_eq_getElem hk]
  rfl
theorem lv_right (P Q : List (List Nat)) (b : Nat) : ∀ k (hk : k < Q.length), Pl.lv (P ++ Q) b (b + P.length + k) = Q[k] := fun k hk => by
  unfold Pl.lv Pl.atL
  rw [show b + P.length + k - b = P.length + k by omega, List.getD_eq_getElem?_getD, List.getElem?_append_right (by omega), Nat.add_sub_cancel_left, List.getElem?_eq_getElem hk]
  rfl
theorem lv_own (P : List (List Nat)) (b : Nat) : ∀ k (hk : k < P.length), Pl.lv P b (b + k) = P[k] := fun k hk => by
  unfold Pl.lv Pl.atL
  rw [Nat.add_sub_cancel_left, List.getD_eq_getElem?_getD, List.getElem?_eq_getElem hk]
  rfl
abbrev SE (w : World) (g3 : Nat) (x1 x2 x3 b e hv rv kb v : Value) (H P : List (List Nat)) (R : List Nat) (w' : World) : Prop := w'.cell? ⟨w.heap.size, 0, none⟩ = some x1 ∧ w'.cell? ⟨w.heap.size, 1, none⟩ = some x2 ∧ w'.cell? ⟨w.heap.size, 2, none⟩ = some x3 ∧ w'.cell? ⟨g3, 0, none⟩ = some b ∧ w'.cell? ⟨g3, 1, none⟩ = some e ∧ w'.cell? ⟨g3, 2, none⟩ = some hv ∧ w'.cell? ⟨g3, 3, none⟩ = some rv ∧ w'.cell? ⟨g3, 4, none⟩ = some kb ∧ HashesR w' hv H ∧ HashesR w' v P ∧ BytesR w' rv R ∧ Below w.heap.size w w'
theorem keepE {w W w' : World} {g3 : Nat} {x1 x2 x3 b e hv rv kb v : Value} {H P : List (List Nat)} {R : List Nat} (hb : Below W.heap.size W w') (h : SE w g3 x1 x2 x3 b e hv rv kb v H P R W) : SE w g3 x1 x2 x3 b e hv rv kb v H P R w' :=
  have up : ∀ {p : Addr} {v : Value}, W.cell? p = some v → w'.cell? p = some v := fun {p} {_} h => (hb.cell (World.block_lt_of_cell? W p h)).trans h
  ⟨up h.1, up h.2.1, up h.2.2.1, up h.2.2.2.1, up h.2.2.2.2.1, up h.2.2.2.2.2.1, up h.2.2.2.2.2.2.1, up h.2.2.2.2.2.2.2.1, h.2.2.2.2.2.2.2.2.1.below hb, h.2.2.2.2.2.2.2.2.2.1.below hb, h.2.2.2.2.2.2.2.2.2.2.1.below hb, h.2.2.2.2.2.2.2.2.2.2.2.trans (hb.mono h.2.2.2.2.2.2.2.2.2.2.2.size)⟩
theorem wpAnyE_skip {P : Program} {ops : Array Oper} {Q : Exit → Act → World → Prop} {md : Region.Mode} {S : World → Prop} {X : List Nat} (i : Nat) (c : List Nat) (d : Option Nat) {oi : Oper} {fuel : Nat} {listed : Array Bool} {a : Act} {w : World} (hi : ops[i]? = some oi) (hd : oi.dst = d)
    (hs : Region.noSelect ops = true) (hf : Region.free md ops listed i = true) (hr : (Region.ready md ops listed).contains i = true) (hw : waits md ops c i = true) (hX : (X.all fun x => c.contains x) = true) (hc : (c.all fun z => !listed.getD z true) = true)
    (hQ : ∀ c a w, Q (.panic c) (a.put oi.dst undef) w → Q (.panic c) a w) (hg : Region.wanted oi (yielded ops a.tmps) = false) (hS : S w)
    (h : wpAnyE P md ops Q S X fuel (listed.setIfInBounds i true) (a.put d undef) w) : wpAnyE P md ops Q S X (fuel + 1) listed a w :=
  wpAnyE_first hi (Region.noSelect_spec hs) hQ hw (fun x hx => by simpa using List.all_eq_true.1 hX x hx) fuel listed a w (Region.free_spec hi hf) (fun z hz => by simpa using List.all_eq_true.1 hc z hz) (by simpa using hr) (.inr ⟨hg, rfl⟩) hS (by rw [hd]; exact h)
set_option maxHeartbeats 8000000 in
theorem main_eq (F : Stop.Interp) (h : Pl.HF) (ok : h.ok) (b z : Nat) (Av Aq : Option Addr) (cv cq : Nat) (P Q : List (List Nat)) (w : World) (hF : F.answers w.tape) (hT : Tab w) (hv : HashesR w (.slice Av P.length cv) P) (hq : HashesR w (.slice Aq Q.length cq) Q) (HFP : Hid (∀ W, Below w.heap.size w W → Calls Tryf.prog 14 #[.slice Av P.length cv] W fun e w' => e = .returned (.bool true) ∧ W = w')) (HFQ : Hid (∀ W, Below w.heap.size w W → Calls Tryf.prog 14 #[.slice Aq Q.length cq] W fun e w' => e = .returned (.bool true) ∧ W = w')) (hb : b ≤ 1152921504606846976) (hz : z ≤ 1152921504606846976) (hn : P.length ≤ 100) (hm : Q.length ≤ 100) (h2 : ∀ x ∈ P, x.length = 2) (h3 : ∀ x ∈ Q, x.length = 2) (HEP : P.length ≠ 0 → Hid (∀ W, Below w.heap.size w W → Calls Tryf.prog 15 #[.slice Av P.length cv] W fun e w' => e = .returned (.bool true) ∧ W = w')) (HEQ : Q.length ≠ 0 → Hid (∀ W, Below w.heap.size w W → Calls Tryf.prog 15 #[.slice Aq Q.length cq] W fun e w' => e = .returned (.bool true) ∧ W = w')) (hzb : z = b + P.length) :
    Calls Tryf.prog 12 #[hashV h, .int .u64 (b : Int), .slice Av P.length cv, .int .u64 (z : Int), .slice Aq Q.length cq] w fun e w' => e = .returned (.bool true) ∧ Below w.heap.size w w' := by
  have HB := Lib.hid (fun C => (Below.refl w.heap.size w).alloc (Nat.le_refl _) (.cells C 24))
  have HV := Lib.hid hv
  have HQ := Lib.hid hq
  have HT := Lib.hid hT
  have HF := Lib.hid hF
  have HOK := Lib.hid ok
  have HAR := Lib.hid (fun W (hW : Below w.heap.size w W) => ar_d F h ok (Pl.lv (P ++ Q) b) b z (z + Q.length) (.slice Av P.length cv) (.slice Aq Q.length cq) P Q W hzb rfl (lv_left P Q b) (fun k hk => by rw [hzb]; exact lv_right P Q b k hk) (ans_below hF hW) (hv.below hW) (hq.below hW) h2 h3 (by omega) (hT.below hW))
  have HPH := Lib.hid (fun W A (k c : Nat) (hW : HashesR W (.slice A k c) (P ++ Q)) => pieceHashes_c h ok b (.slice A k c) (P ++ Q) W hW (by simp; omega) (by simp; omega))
  have HMT := Lib.hid (fun W A (k c : Nat) (h0 : 0 < (P ++ Q).length) (hW : HashesR W (.slice A k c) (P ++ Q)) => mth_c h ok (.slice A k c) (P ++ Q) W (by omega) (by simp; omega) hW)
  have HRM := Lib.hid (fun (h0 : 0 < (P ++ Q).length) => rootAt_mth h (P ++ Q) h0 (by simp; omega))
  have HL := Lib.hid (show P.length + Q.length ≤ 200 ∧ P.length ≤ 100 ∧ (P ++ Q).length = P.length + Q.length from ⟨by omega, by omega, by simp⟩)
  have HZB := Lib.hid hzb
  have HBB := Lib.hid (show b ≤ 1152921504606846976 ∧ z ≤ 1152921504606846976 from ⟨hb, hz⟩)
  have hb1 : (b : Int) ≤ 1152921504606846976 := by omega
  have hz1 : (z : Int) ≤ 1152921504606846976 := by omega
  have e1 : IntKind.u64.wrap ((P.length : Nat) : Int) = ((P.length : Nat) : Int) := wrapN _ (by omega)
  have e2 : IntKind.u64.wrap ((b : Int) + ((P.length : Nat) : Int)) = (z : Int) := by have := wrapN z (by omega); rw [← this]; congr 1; omega
  clear hv hq hT hF ok h2 h3 hb hz hzb
  generalize hnn : P.length = n at *
  generalize hmm : Q.length = m at *
  have HNN := Lib.hid hnn
  have HMM := Lib.hid hmm
  clear hnn hmm
  have HNB := Lib.hid hn
  have HMB := Lib.hid hm
  have hn1 : (n : Int) ≤ 100 := by omega
  have hm1 : (m : Int) ≤ 100 := by omega
  clear hn hm
  obtain ⟨Ah, Bh, Ch⟩ := h
  unfold hashV
  go_enter Tryf.func12, Tryf.ntmps12
  go_wp2_with fail
  refine (HFP.out _ (HB.out _)).mono ?_; rintro e w' ⟨rfl, rfl⟩
  go_wp2_with fail
  refine (HFQ.out _ (HB.out _)).mono ?_; rintro e w' ⟨rfl, rfl⟩
  go_upto_region 3 with fail
  go_cut [57] (fun c wx => c = .bool false ∧ wx = w.alloc (.cells #[.int .u32 (Ah : Int), .int .u32 (Bh : Int), .int .u32 (Ch : Int)] 24))
  case first =>
    by_cases p0 : n = 0
    · by_cases q0 : m = 0
      · clear HEP HEQ hn1 hm1
        subst p0
        subst q0
        go_wp2_with fail
        go_meet
        exact ⟨by simp <;> omega, rfl⟩
      · have HE2 := HEQ q0
        have zq1 : (0 : Int) < (m : Int) := by omega
        clear HEP HEQ
        subst p0
        clear q0
        go_wp2_with fail
        refine (HE2.out _ (HB.out _)).mono ?_; rintro e w' ⟨rfl, rfl⟩
        go_wp2_with fail
        go_meet
        exact ⟨by simp <;> omega, rfl⟩
    · by_cases q0 : m = 0
      · have HE1 := HEP p0
        have zp1 : (0 : Int) < (n : Int) := by omega
        clear HEP HEQ
        clear p0
        subst q0
        go_wp2_with fail
        refine (HE1.out _ (HB.out _)).mono ?_; rintro e w' ⟨rfl, rfl⟩
        go_wp2_with fail
        go_meet
        exact ⟨by simp <;> omega, rfl⟩
      · have HE1 := HEP p0
        have zp1 : (0 : Int) < (n : Int) := by omega
        have HE2 := HEQ q0
        have zq1 : (0 : Int) < (m : Int) := by omega
        clear HEP HEQ
        clear p0
        clear q0
        go_wp2_with fail
        refine (HE1.out _ (HB.out _)).mono ?_; rintro e w' ⟨rfl, rfl⟩
        go_wp2_with fail
        refine (HE2.out _ (HB.out _)).mono ?_; rintro e w' ⟨rfl, rfl⟩
        go_wp2_with fail
        go_meet
        exact ⟨by simp <;> omega, rfl⟩
  case rest =>
    obtain ⟨rfl, rfl⟩ := hcut
    clear HEP HEQ HFP HFQ hn1 hm1
    go_wp2_with fail
    refine (HAR.out _ (HB.out _)).mono ?_; rintro r w3 ⟨A2, Ar, A6, A7, c2, nr, cr, c6, c7, nH, nG, nE, kb, H, R, G, E, rfl, HEF, HK, hb3⟩
    have HKH : Hid (Blk w3 w.heap.size 24 #[.int .u32 (Ah : Int), .int .u32 (Bh : Int), .int .u32 (Ch : Int)]) := Lib.hid ((Blk.new w _ _).below' hb3)
    have HB3 := Lib.hid ((HB.out #[.int .u32 (Ah : Int), .int .u32 (Bh : Int), .int .u32 (Ch : Int)]).trans (hb3.mono (HB.out _).size))
    clear hb3 HAR
    generalize hee : z + m = e at *
    have HEE := Lib.hid hee
    clear hee
    have BA : Below w3.heap.size w3 (w3.alloc (.cells #[.int .u64 (b : Int), .int .u64 (e : Int), .slice A2 nH c2, .slice Ar nr cr, .bool kb, .slice A6 nG c6, .slice A7 nE c7] 31)) := (Below.refl _ _).alloc (Nat.le_refl _) _
    have HKR := Lib.hid (Blk.new w3 31 #[.int .u64 (b : Int), .int .u64 (e : Int), .slice A2 nH c2, .slice Ar nr cr, .bool kb, .slice A6 nG c6, .slice A7 nE c7])
    have HHH := Lib.hid ((HK.out.1.hashes).below BA)
    have HRR := Lib.hid ((HK.out.2.1.1).below BA)
    have HKH4 := Lib.hid (HKH.out.below' BA)
    have HA0 := AllR.start (W0 := w) (w := w3.alloc (.cells #[.int .u64 (b : Int), .int .u64 (e : Int), .slice A2 nH c2, .slice Ar nr cr, .bool kb, .slice A6 nG c6, .slice A7 nE c7] 31)) (HB3.out.trans (BA.mono HB3.out.size)) (HB3.out.trans (BA.mono HB3.out.size)).size
    rw [World.size_alloc] at HA0
    have HA0' := Lib.hid HA0
    have HBA := Lib.hid BA
    clear HA0 BA HK
    go_wp2_with (first
      | (at_builtin
         refine wpList_append_all rfl (.tmp 67) (.tmp 68) rfl (w3.heap.size + 1) _ [] P HA0'.out rfl Av n cv rfl HV.out (by have := HL.out; have := HNN.out; simp; omega) ?_
         intro A5 n5 c5 w5 hn5 hA5 hb5
         rw [List.nil_append] at hn5 hA5
         have HN5 := Lib.hid hn5
         have HA5 := Lib.hid hA5
         have HB5 := Lib.hid hb5
         clear hn5 hA5 hb5)
      | (at_builtin
         refine wpList_append_all rfl (.tmp 69) (.tmp 70) rfl (w3.heap.size + 1) _ P Q HA5.out rfl Aq m cq rfl HQ.out (by have := HL.out; have := HNN.out; have := HMM.out; omega) ?_
         intro A8 n8 c8 w8 hn8 hA8 hb8
         have HN8 := Lib.hid hn8
         have HA8 := Lib.hid hA8
         have HB8 := Lib.hid hb8
         clear hn8 hA8 hb8)
      | fail)
    have HKH8 := Lib.hid (((HKH4.out.alloc (.cells #[] 28)).below HB5.out (by have := HKH.out.lt; omega)).below HB8.out (by have := HKH.out.lt; omega))
    have HKR8 := Lib.hid (((HKR.out.alloc (.cells #[] 28)).below HB5.out (by omega)).below HB8.out (by omega))
    have BW := (((Below.refl (w3.heap.size + 1) (w3.alloc (.cells #[.int .u64 (b : Int), .int .u64 (e : Int), .slice A2 nH c2, .slice Ar nr cr, .bool kb, .slice A6 nG c6, .slice A7 nE c7] 31))).alloc (by simp) (.cells #[] 28)).trans HB5.out).trans HB8.out
    have BW2 : Below (w3.alloc (.cells #[.int .u64 (b : Int), .int .u64 (e : Int), .slice A2 nH c2, .slice Ar nr cr, .bool kb, .slice A6 nG c6, .slice A7 nE c7] 31)).heap.size (w3.alloc (.cells #[.int .u64 (b : Int), .int .u64 (e : Int), .slice A2 nH c2, .slice Ar nr cr, .bool kb, .slice A6 nG c6, .slice A7 nE c7] 31)) w8 := by rw [World.size_alloc]; exact BW
    have HHH8 := Lib.hid (HHH.out.below BW2)
    have HRR8 := Lib.hid (HRR.out.below BW2)
    clear BW BW2
    have HH : Hid (H = Pl.ph ⟨Ah, Bh, Ch⟩ (Pl.lv (P ++ Q) b) b (b + (P ++ Q).length)) := Lib.hid (by rw [HEF.out.2.1, ← HEE.out, HZB.out, HL.out.2.2, ← HNN.out, ← HMM.out, Nat.add_assoc])
    have hHl : H.length ≤ 1000 := by
      rw [HH.out, Pl.ph_length]
      have := Pl.pieces_len b (b + (P ++ Q).length) (by have := HBB.out; have := HL.out; omega)
      omega
    have HN8' : Hid (n8 = n + m) := Lib.hid (by rw [HN8.out, HL.out.2.2])
    have e5 : IntKind.u64.wrap (n8 : Int) = (n8 : Int) := wrapN _ (by have := HN8'.out; have := HL.out; have := HNN.out; have := HMM.out; omega)
    have e6 : IntKind.u64.wrap ((b : Int) + (n8 : Int)) = (e : Int) := by
      have h1 := wrapN e (by have := HEE.out; have := HBB.out; have := HL.out; have := HMM.out; omega)
      rw [← h1]; congr 1
      have := HEE.out; have := HZB.out; have := HN8'.out; have := HNN.out; omega
    have HPH1 := Lib.hid (fun W (hW : HashesR W (.slice A8 n8 c8) (P ++ Q)) => HPH.out W A8 n8 c8 hW)
    rw [← HH.out] at HPH1
    have HSM := Lib.hid (fun W (v1 v2 : Value) (h1 : HashesR W v1 H) (h2 : HashesR W v2 H) => (sameHashes_c v1 v2 H H W h1 h2 (by omega)).mono fun _ _ r => r.yes rfl)
    have HKB := Lib.hid HEF.out.1
    have HRT := Lib.hid HEF.out.2.2.1
    unfold hashV at HPH1
    simp only [] at HPH1
    clear HPH hHl HKR HKH4 HHH HRR HA0' HB5 HN5 HA5 HB8
    have S0 : SE w w3.heap.size (.int .u32 (Ah : Int)) (.int .u32 (Bh : Int)) (.int .u32 (Ch : Int)) (.int .u64 (b : Int)) (.int .u64 (e : Int)) (.slice A2 nH c2) (.slice Ar nr cr) (.bool kb) (.slice A8 n8 c8) H (P ++ Q) R w8.drew := ⟨HKH8.out.cell 0, HKH8.out.cell 1, HKH8.out.cell 2, HKR8.out.cell 0, HKR8.out.cell 1, HKR8.out.cell 2, HKR8.out.cell 3, HKR8.out.cell 4, HHH8.out.below ((Below.refl _ _).drew), HA8.out.hashes.below ((Below.refl _ _).drew), HRR8.out.below ((Below.refl _ _).drew), HA8.out.1.drew⟩
    refine wp_region_E (fun w' => SE w w3.heap.size (.int .u32 (Ah : Int)) (.int .u32 (Bh : Int)) (.int .u32 (Ch : Int)) (.int .u64 (b : Int)) (.int .u64 (e : Int)) (.slice A2 nH c2) (.slice Ar nr cr) (.bool kb) (.slice A8 n8 c8) H (P ++ Q) R w') [] (by kernel_rfl) S0 (fun hHeld => ?_)
    clear S0
    refine wpAnyE_take 0 [] (some 84) (v := .bool true) rfl rfl (by kernel_rfl) (by kernel_rfl) (by kernel_rfl) (by kernel_rfl) (by kernel_rfl) (by kernel_rfl) (fun _ _ _ h => h) (by rfl) hHeld ?_ ?_
    · intro W hS
      obtain ⟨s1, s2, s3, s4, s5, s6, s7, s8, s9, s10, s11, s12⟩ := hS
      clear s9 s10 s11 s12
      go_simp
    simp only [Act.put, List.setIfInBounds_toArray, List.set_cons_zero, List.set_cons_succ]
    refine wpAnyE_take 1 [] (some 85) (v := .bool true) rfl rfl (by kernel_rfl) (by kernel_rfl) (by kernel_rfl) (by kernel_rfl) (by kernel_rfl) (by kernel_rfl) (fun _ _ _ h => h) (by rfl) hHeld ?_ ?_
    · intro W hS
      obtain ⟨s1, s2, s3, s4, s5, s6, s7, s8, s9, s10, s11, s12⟩ := hS
      clear s9 s10 s11 s12
      go_simp
    simp only [Act.put, List.setIfInBounds_toArray, List.set_cons_zero, List.set_cons_succ]
    refine wpAnyE_take 2 [] (some 86) (v := .pointer (some ⟨w3.heap.size, 0, none⟩)) rfl rfl (by kernel_rfl) (by kernel_rfl) (by kernel_rfl) (by kernel_rfl) (by kernel_rfl) (by kernel_rfl) (fun _ _ _ h => h) (by rfl) hHeld ?_ ?_
    · intro W hS
      obtain ⟨s1, s2, s3, s4, s5, s6, s7, s8, s9, s10, s11, s12⟩ := hS
      clear s9 s10 s11 s12
      go_simp
    simp only [Act.put, List.setIfInBounds_toArray, List.set_cons_zero, List.set_cons_succ]
    refine wpAnyE_take 3 [] (some 87) (v := .int .u64 (b : Int)) rfl rfl (by kernel_rfl) (by kernel_rfl) (by kernel_rfl) (by kernel_rfl) (by kernel_rfl) (by kernel_rfl) (fun _ _ _ h => h) (by rfl) hHeld ?_ ?_
    · intro W hS
      obtain ⟨s1, s2, s3, s4, s5, s6, s7, s8, s9, s10, s11, s12⟩ := hS
      clear s9 s10 s11 s12
      go_simp
    simp only [Act.put, List.setIfInBounds_toArray, List.set_cons_zero, List.set_cons_succ]
    refine wpAnyE_take 4 [] (some 88) (v := .int .u64 (b : Int)) rfl rfl (by kernel_rfl) (by kernel_rfl) (by kernel_rfl) (by kernel_rfl) (by kernel_rfl) (by kernel_rfl) (fun _ _ _ h => h) (by rfl) hHeld ?_ ?_
    · intro W hS
      obtain ⟨s1, s2, s3, s4, s5, s6, s7, s8, s9, s10, s11, s12⟩ := hS
      clear s9 s10 s11 s12
      go_simp
    simp only [Act.put, List.setIfInBounds_toArray, List.set_cons_zero, List.set_cons_succ]
    refine wpAnyE_take 5 [] (some 89) (v := .bool true) rfl rfl (by kernel_rfl) (by kernel_rfl) (by kernel_rfl) (by kernel_rfl) (by kernel_rfl) (by kernel_rfl) (fun _ _ _ h => h) (by rfl) hHeld ?_ ?_
    · intro W hS
      obtain ⟨s1, s2, s3, s4, s5, s6, s7, s8, s9, s10, s11, s12⟩ := hS
      clear s9 s10 s11 s12
      go_simp
    simp only [Act.put, List.setIfInBounds_toArray, List.set_cons_zero, List.set_cons_succ]
    refine wpAnyE_take 6 [] (some 90) (v := .bool true) rfl rfl (by kernel_rfl) (by kernel_rfl) (by kernel_rfl) (by kernel_rfl) (by kernel_rfl) (by kernel_rfl) (fun _ _ _ h => h) (by rfl) hHeld ?_ ?_
    · intro W hS
      obtain ⟨s1, s2, s3, s4, s5, s6, s7, s8, s9, s10, s11, s12⟩ := hS
      clear s9 s10 s11 s12
      go_simp
    simp only [Act.put, List.setIfInBounds_toArray, List.set_cons_zero, List.set_cons_succ]
    refine wpAnyE_take 7 [] (some 91) (v := .bool true) rfl rfl (by kernel_rfl) (by kernel_rfl) (by kernel_rfl) (by kernel_rfl) (by kernel_rfl) (by kernel_rfl) (fun _ _ _ h => h) (by rfl) hHeld ?_ ?_
    · intro W hS
      obtain ⟨s1, s2, s3, s4, s5, s6, s7, s8, s9, s10, s11, s12⟩ := hS
      clear s9 s10 s11 s12
      go_simp
    simp only [Act.put, List.setIfInBounds_toArray, List.set_cons_zero, List.set_cons_succ]
    refine wpAnyE_take 8 [] (some 92) (v := .pointer (some ⟨w3.heap.size, 1, none⟩)) rfl rfl (by kernel_rfl) (by kernel_rfl) (by kernel_rfl) (by kernel_rfl) (by kernel_rfl) (by kernel_rfl) (fun _ _ _ h => h) (by rfl) hHeld ?_ ?_
    · intro W hS
      obtain ⟨s1, s2, s3, s4, s5, s6, s7, s8, s9, s10, s11, s12⟩ := hS
      clear s9 s10 s11 s12
      go_simp
    simp only [Act.put, List.setIfInBounds_toArray, List.set_cons_zero, List.set_cons_succ]
    refine wpAnyE_take 9 [] (some 93) (v := .int .u64 (e : Int)) rfl rfl (by kernel_rfl) (by kernel_rfl) (by kernel_rfl) (by kernel_rfl) (by kernel_rfl) (by kernel_rfl) (fun _ _ _ h => h) (by rfl) hHeld ?_ ?_
    · intro W hS
      obtain ⟨s1, s2, s3, s4, s5, s6, s7, s8, s9, s10, s11, s12⟩ := hS
      clear s9 s10 s11 s12
      go_simp
    simp only [Act.put, List.setIfInBounds_toArray, List.set_cons_zero, List.set_cons_succ]
    refine wpAnyE_take 10 [] (some 94) (v := .int .u64 (b : Int)) rfl rfl (by kernel_rfl) (by kernel_rfl) (by kernel_rfl) (by kernel_rfl) (by kernel_rfl) (by kernel_rfl) (fun _ _ _ h => h) (by rfl) hHeld ?_ ?_
    · intro W hS
      obtain ⟨s1, s2, s3, s4, s5, s6, s7, s8, s9, s10, s11, s12⟩ := hS
      clear s9 s10 s11 s12
      go_simp
    simp only [Act.put, List.setIfInBounds_toArray, List.set_cons_zero, List.set_cons_succ]
    refine wpAnyE_take 11 [] (some 95) (v := .slice A8 n8 c8) rfl rfl (by kernel_rfl) (by kernel_rfl) (by kernel_rfl) (by kernel_rfl) (by kernel_rfl) (by kernel_rfl) (fun _ _ _ h => h) (by rfl) hHeld ?_ ?_
    · intro W hS
      obtain ⟨s1, s2, s3, s4, s5, s6, s7, s8, s9, s10, s11, s12⟩ := hS
      clear s9 s10 s11 s12
      go_simp
    simp only [Act.put, List.setIfInBounds_toArray, List.set_cons_zero, List.set_cons_succ]
    refine wpAnyE_take 12 [] (some 96) (v := .int .i64 (n8 : Int)) rfl rfl (by kernel_rfl) (by kernel_rfl) (by kernel_rfl) (by kernel_rfl) (by kernel_rfl) (by kernel_rfl) (fun _ _ _ h => h) (by rfl) hHeld ?_ ?_
    · intro W hS
      obtain ⟨s1, s2, s3, s4, s5, s6, s7, s8, s9, s10, s11, s12⟩ := hS
      clear s9 s10 s11 s12
      go_simp
    simp only [Act.put, List.setIfInBounds_toArray, List.set_cons_zero, List.set_cons_succ]
    refine wpAnyE_take 13 [] (some 97) (v := .int .u64 (n8 : Int)) rfl rfl (by kernel_rfl) (by kernel_rfl) (by kernel_rfl) (by kernel_rfl) (by kernel_rfl) (by kernel_rfl) (fun _ _ _ h => h) (by rfl) hHeld ?_ ?_
    · intro W hS
      obtain ⟨s1, s2, s3, s4, s5, s6, s7, s8, s9, s10, s11, s12⟩ := hS
      clear s9 s10 s11 s12
      go_simp
    simp only [Act.put, List.setIfInBounds_toArray, List.set_cons_zero, List.set_cons_succ]
    refine wpAnyE_take 14 [] (some 98) (v := .int .u64 (e : Int)) rfl rfl (by kernel_rfl) (by kernel_rfl) (by kernel_rfl) (by kernel_rfl) (by kernel_rfl) (by kernel_rfl) (fun _ _ _ h => h) (by rfl) hHeld ?_ ?_
    · intro W hS
      obtain ⟨s1, s2, s3, s4, s5, s6, s7, s8, s9, s10, s11, s12⟩ := hS
      clear s9 s10 s11 s12
      go_simp
    simp only [Act.put, List.setIfInBounds_toArray, List.set_cons_zero, List.set_cons_succ]
    refine wpAnyE_take 15 [] (some 99) (v := .bool true) rfl rfl (by kernel_rfl) (by kernel_rfl) (by kernel_rfl) (by kernel_rfl) (by kernel_rfl) (by kernel_rfl) (fun _ _ _ h => h) (by rfl) hHeld ?_ ?_
    · intro W hS
      obtain ⟨s1, s2, s3, s4, s5, s6, s7, s8, s9, s10, s11, s12⟩ := hS
      clear s9 s10 s11 s12
      go_simp
    simp only [Act.put, List.setIfInBounds_toArray, List.set_cons_zero, List.set_cons_succ]
    refine wpAnyE_take 16 [] (some 100) (v := .bool true) rfl rfl (by kernel_rfl) (by kernel_rfl) (by kernel_rfl) (by kernel_rfl) (by kernel_rfl) (by kernel_rfl) (fun _ _ _ h => h) (by rfl) hHeld ?_ ?_
    · intro W hS
      obtain ⟨s1, s2, s3, s4, s5, s6, s7, s8, s9, s10, s11, s12⟩ := hS
      clear s9 s10 s11 s12
      go_simp
    simp only [Act.put, List.setIfInBounds_toArray, List.set_cons_zero, List.set_cons_succ]
    refine wpAnyE_take 17 [] (some 101) (v := .bool true) rfl rfl (by kernel_rfl) (by kernel_rfl) (by kernel_rfl) (by kernel_rfl) (by kernel_rfl) (by kernel_rfl) (fun _ _ _ h => h) (by rfl) hHeld ?_ ?_
    · intro W hS
      obtain ⟨s1, s2, s3, s4, s5, s6, s7, s8, s9, s10, s11, s12⟩ := hS
      clear s9 s10 s11 s12
      go_simp
    simp only [Act.put, List.setIfInBounds_toArray, List.set_cons_zero, List.set_cons_succ]
    refine wpAnyE_take 18 [] (some 102) (v := .pointer (some ⟨w3.heap.size, 2, none⟩)) rfl rfl (by kernel_rfl) (by kernel_rfl) (by kernel_rfl) (by kernel_rfl) (by kernel_rfl) (by kernel_rfl) (fun _ _ _ h => h) (by rfl) hHeld ?_ ?_
    · intro W hS
      obtain ⟨s1, s2, s3, s4, s5, s6, s7, s8, s9, s10, s11, s12⟩ := hS
      clear s9 s10 s11 s12
      go_simp
    simp only [Act.put, List.setIfInBounds_toArray, List.set_cons_zero, List.set_cons_succ]
    refine wpAnyE_take 19 [] (some 103) (v := .slice A2 nH c2) rfl rfl (by kernel_rfl) (by kernel_rfl) (by kernel_rfl) (by kernel_rfl) (by kernel_rfl) (by kernel_rfl) (fun _ _ _ h => h) (by rfl) hHeld ?_ ?_
    · intro W hS
      obtain ⟨s1, s2, s3, s4, s5, s6, s7, s8, s9, s10, s11, s12⟩ := hS
      clear s9 s10 s11 s12
      go_simp
    simp only [Act.put, List.setIfInBounds_toArray, List.set_cons_zero, List.set_cons_succ]
    refine wpAnyE_take 20 [] (some 104) (v := .agg #[.int .u32 (Ah : Int), .int .u32 (Bh : Int), .int .u32 (Ch : Int)]) rfl rfl (by kernel_rfl) (by kernel_rfl) (by kernel_rfl) (by kernel_rfl) (by kernel_rfl) (by kernel_rfl) (fun _ _ _ h => h) (by rfl) hHeld ?_ ?_
    · intro W hS
      obtain ⟨s1, s2, s3, s4, s5, s6, s7, s8, s9, s10, s11, s12⟩ := hS
      clear s9 s10 s11 s12
      go_simp
    simp only [Act.put, List.setIfInBounds_toArray, List.set_cons_zero, List.set_cons_succ]
    refine wpAnyE_take 21 [] (some 105) (v := .int .u64 (b : Int)) rfl rfl (by kernel_rfl) (by kernel_rfl) (by kernel_rfl) (by kernel_rfl) (by kernel_rfl) (by kernel_rfl) (fun _ _ _ h => h) (by rfl) hHeld ?_ ?_
    · intro W hS
      obtain ⟨s1, s2, s3, s4, s5, s6, s7, s8, s9, s10, s11, s12⟩ := hS
      clear s9 s10 s11 s12
      go_simp
    simp only [Act.put, List.setIfInBounds_toArray, List.set_cons_zero, List.set_cons_succ]
    refine wpAnyE_take 22 [] (some 106) (v := .slice A8 n8 c8) rfl rfl (by kernel_rfl) (by kernel_rfl) (by kernel_rfl) (by kernel_rfl) (by kernel_rfl) (by kernel_rfl) (fun _ _ _ h => h) (by rfl) hHeld ?_ ?_
    · intro W hS
      obtain ⟨s1, s2, s3, s4, s5, s6, s7, s8, s9, s10, s11, s12⟩ := hS
      clear s9 s10 s11 s12
      go_simp
    simp only [Act.put, List.setIfInBounds_toArray, List.set_cons_zero, List.set_cons_succ]
    refine wpAnyE_one 23 (by kernel_rfl) rfl (fun K hK => ?_)
    go_simp
    refine (HPH1.out _ hHeld.2.2.2.2.2.2.2.2.2.1).mono ?_; rintro e9 wx ⟨pv, rfl, hpv0, hb9⟩
    have hHeld : SE w w3.heap.size (.int .u32 (Ah : Int)) (.int .u32 (Bh : Int)) (.int .u32 (Ch : Int)) (.int .u64 (b : Int)) (.int .u64 (e : Int)) (.slice A2 nH c2) (.slice Ar nr cr) (.bool kb) (.slice A8 n8 c8) H (P ++ Q) R wx := keepE hb9 hHeld
    have hpv := hpv0.hashes
    obtain ⟨Ap, np, cp, rfl⟩ : ∃ A n c, pv = .slice A n c := by obtain ⟨A, c, e, _⟩ := hpv; exact ⟨A, _, c, e⟩
    refine hK.out _ _ (fun _ => hHeld) ?_
    clear hK K
    try simp only [Act.put, List.setIfInBounds_toArray, List.set_cons_zero, List.set_cons_succ]
    refine wpAnyE_one 24 (by kernel_rfl) rfl (fun K hK => ?_)
    go_simp
    refine (HSM.out _ _ _ hHeld.2.2.2.2.2.2.2.2.1 hpv).mono ?_; rintro e9 wx ⟨rfl, hb9⟩
    have hHeld : SE w w3.heap.size (.int .u32 (Ah : Int)) (.int .u32 (Bh : Int)) (.int .u32 (Ch : Int)) (.int .u64 (b : Int)) (.int .u64 (e : Int)) (.slice A2 nH c2) (.slice Ar nr cr) (.bool kb) (.slice A8 n8 c8) H (P ++ Q) R wx := keepE hb9 hHeld
    refine hK.out _ _ (fun _ => hHeld) ?_
    clear hK K
    try simp only [Act.put, List.setIfInBounds_toArray, List.set_cons_zero, List.set_cons_succ]
    clear hpv hpv0
    refine wpAnyE_take 25 [] (some 109) (v := .bool true) rfl rfl (by kernel_rfl) (by kernel_rfl) (by kernel_rfl) (by kernel_rfl) (by kernel_rfl) (by kernel_rfl) (fun _ _ _ h => h) (by rfl) hHeld ?_ ?_
    · intro W hS
      obtain ⟨s1, s2, s3, s4, s5, s6, s7, s8, s9, s10, s11, s12⟩ := hS
      clear s9 s10 s11 s12
      go_simp
    simp only [Act.put, List.setIfInBounds_toArray, List.set_cons_zero, List.set_cons_succ]
    refine wpAnyE_take 26 [] (some 110) (v := .bool true) rfl rfl (by kernel_rfl) (by kernel_rfl) (by kernel_rfl) (by kernel_rfl) (by kernel_rfl) (by kernel_rfl) (fun _ _ _ h => h) (by rfl) hHeld ?_ ?_
    · intro W hS
      obtain ⟨s1, s2, s3, s4, s5, s6, s7, s8, s9, s10, s11, s12⟩ := hS
      clear s9 s10 s11 s12
      go_simp
    simp only [Act.put, List.setIfInBounds_toArray, List.set_cons_zero, List.set_cons_succ]
    refine wpAnyE_take 27 [] (some 111) (v := .pointer (some ⟨w3.heap.size, 4, none⟩)) rfl rfl (by kernel_rfl) (by kernel_rfl) (by kernel_rfl) (by kernel_rfl) (by kernel_rfl) (by kernel_rfl) (fun _ _ _ h => h) (by rfl) hHeld ?_ ?_
    · intro W hS
      obtain ⟨s1, s2, s3, s4, s5, s6, s7, s8, s9, s10, s11, s12⟩ := hS
      clear s9 s10 s11 s12
      go_simp
    simp only [Act.put, List.setIfInBounds_toArray, List.set_cons_zero, List.set_cons_succ]
    refine wpAnyE_take 28 [] (some 112) (v := .bool kb) rfl rfl (by kernel_rfl) (by kernel_rfl) (by kernel_rfl) (by kernel_rfl) (by kernel_rfl) (by kernel_rfl) (fun _ _ _ h => h) (by rfl) hHeld ?_ ?_
    · intro W hS
      obtain ⟨s1, s2, s3, s4, s5, s6, s7, s8, s9, s10, s11, s12⟩ := hS
      clear s9 s10 s11 s12
      go_simp
    simp only [Act.put, List.setIfInBounds_toArray, List.set_cons_zero, List.set_cons_succ]
    refine wpAnyE_take 29 [] (some 113) (v := .int .u64 (b : Int)) rfl rfl (by kernel_rfl) (by kernel_rfl) (by kernel_rfl) (by kernel_rfl) (by kernel_rfl) (by kernel_rfl) (fun _ _ _ h => h) (by rfl) hHeld ?_ ?_
    · intro W hS
      obtain ⟨s1, s2, s3, s4, s5, s6, s7, s8, s9, s10, s11, s12⟩ := hS
      clear s9 s10 s11 s12
      go_simp
    simp only [Act.put, List.setIfInBounds_toArray, List.set_cons_zero, List.set_cons_succ]
    by_cases hb0 : b = 0
    · obtain rfl : kb = true := by rw [HKB.out, hb0]; rfl
      have t0 : (b : Int) = 0 := by omega
      have t1 : ((b : Int) == 0) = true := by rw [t0]; rfl
      have t2 : ¬ (0 : Int) < (b : Int) := by omega
      have t3 : decide ((0 : Int) < (b : Int)) = false := decide_eq_false t2
      have t4 : ¬ 0 < b := by omega
      by_cases h8 : n8 = 0
      · have u0 : (n8 : Int) = 0 := by omega
        have u1 : ((n8 : Int) == 0) = true := by rw [u0]; rfl
        clear e5 e6 HMT
        refine wpAnyE_take 30 [] (some 114) (v := .bool true) rfl rfl (by kernel_rfl) (by kernel_rfl) (by kernel_rfl) (by kernel_rfl) (by kernel_rfl) (by kernel_rfl) (fun _ _ _ h => h) (by rfl) hHeld ?_ ?_
        · intro W hS
          obtain ⟨s1, s2, s3, s4, s5, s6, s7, s8, s9, s10, s11, s12⟩ := hS
          clear s9 s10 s11 s12
          go_simp
        simp only [Act.put, List.setIfInBounds_toArray, List.set_cons_zero, List.set_cons_succ]
        refine wpAnyE_take 31 [] (some 115) (v := .bool true) rfl rfl (by kernel_rfl) (by kernel_rfl) (by kernel_rfl) (by kernel_rfl) (by kernel_rfl) (by kernel_rfl) (fun _ _ _ h => h) (by rfl) hHeld ?_ ?_
        · intro W hS
          obtain ⟨s1, s2, s3, s4, s5, s6, s7, s8, s9, s10, s11, s12⟩ := hS
          clear s9 s10 s11 s12
          go_simp
        simp only [Act.put, List.setIfInBounds_toArray, List.set_cons_zero, List.set_cons_succ]
        refine wpAnyE_take 32 [] (some 116) (v := .bool true) rfl rfl (by kernel_rfl) (by kernel_rfl) (by kernel_rfl) (by kernel_rfl) (by kernel_rfl) (by kernel_rfl) (fun _ _ _ h => h) (by rfl) hHeld ?_ ?_
        · intro W hS
          obtain ⟨s1, s2, s3, s4, s5, s6, s7, s8, s9, s10, s11, s12⟩ := hS
          clear s9 s10 s11 s12
          go_simp
        simp only [Act.put, List.setIfInBounds_toArray, List.set_cons_zero, List.set_cons_succ]
        refine wpAnyE_take 33 [] (some 117) (v := .bool true) rfl rfl (by kernel_rfl) (by kernel_rfl) (by kernel_rfl) (by kernel_rfl) (by kernel_rfl) (by kernel_rfl) (fun _ _ _ h => h) (by rfl) hHeld ?_ ?_
        · intro W hS
          obtain ⟨s1, s2, s3, s4, s5, s6, s7, s8, s9, s10, s11, s12⟩ := hS
          clear s9 s10 s11 s12
          go_simp
        simp only [Act.put, List.setIfInBounds_toArray, List.set_cons_zero, List.set_cons_succ]
        refine wpAnyE_take 34 [] (some 118) (v := .int .u64 (b : Int)) rfl rfl (by kernel_rfl) (by kernel_rfl) (by kernel_rfl) (by kernel_rfl) (by kernel_rfl) (by kernel_rfl) (fun _ _ _ h => h) (by rfl) hHeld ?_ ?_
        · intro W hS
          obtain ⟨s1, s2, s3, s4, s5, s6, s7, s8, s9, s10, s11, s12⟩ := hS
          clear s9 s10 s11 s12
          go_simp
        simp only [Act.put, List.setIfInBounds_toArray, List.set_cons_zero, List.set_cons_succ]
        refine wpAnyE_take 35 [] (some 119) (v := .bool false) rfl rfl (by kernel_rfl) (by kernel_rfl) (by kernel_rfl) (by kernel_rfl) (by kernel_rfl) (by kernel_rfl) (fun _ _ _ h => h) (by rfl) hHeld ?_ ?_
        · intro W hS
          obtain ⟨s1, s2, s3, s4, s5, s6, s7, s8, s9, s10, s11, s12⟩ := hS
          clear s9 s10 s11 s12
          go_simp
        simp only [Act.put, List.setIfInBounds_toArray, List.set_cons_zero, List.set_cons_succ]
        refine wpAnyE_take 36 [] (some 120) (v := .bool false) rfl rfl (by kernel_rfl) (by kernel_rfl) (by kernel_rfl) (by kernel_rfl) (by kernel_rfl) (by kernel_rfl) (fun _ _ _ h => h) (by rfl) hHeld ?_ ?_
        · intro W hS
          obtain ⟨s1, s2, s3, s4, s5, s6, s7, s8, s9, s10, s11, s12⟩ := hS
          clear s9 s10 s11 s12
          go_simp
        simp only [Act.put, List.setIfInBounds_toArray, List.set_cons_zero, List.set_cons_succ]
        refine wpAnyE_take 37 [] (some 121) (v := .slice A8 n8 c8) rfl rfl (by kernel_rfl) (by kernel_rfl) (by kernel_rfl) (by kernel_rfl) (by kernel_rfl) (by kernel_rfl) (fun _ _ _ h => h) (by rfl) hHeld ?_ ?_
        · intro W hS
          obtain ⟨s1, s2, s3, s4, s5, s6, s7, s8, s9, s10, s11, s12⟩ := hS
          clear s9 s10 s11 s12
          go_simp
        simp only [Act.put, List.setIfInBounds_toArray, List.set_cons_zero, List.set_cons_succ]
        refine wpAnyE_take 38 [] (some 122) (v := .int .i64 (n8 : Int)) rfl rfl (by kernel_rfl) (by kernel_rfl) (by kernel_rfl) (by kernel_rfl) (by kernel_rfl) (by kernel_rfl) (fun _ _ _ h => h) (by rfl) hHeld ?_ ?_
        · intro W hS
          obtain ⟨s1, s2, s3, s4, s5, s6, s7, s8, s9, s10, s11, s12⟩ := hS
          clear s9 s10 s11 s12
          go_simp
        simp only [Act.put, List.setIfInBounds_toArray, List.set_cons_zero, List.set_cons_succ]
        refine wpAnyE_take 39 [] (some 123) (v := .bool true) rfl rfl (by kernel_rfl) (by kernel_rfl) (by kernel_rfl) (by kernel_rfl) (by kernel_rfl) (by kernel_rfl) (fun _ _ _ h => h) (by rfl) hHeld ?_ ?_
        · intro W hS
          obtain ⟨s1, s2, s3, s4, s5, s6, s7, s8, s9, s10, s11, s12⟩ := hS
          clear s9 s10 s11 s12
          go_simp
        simp only [Act.put, List.setIfInBounds_toArray, List.set_cons_zero, List.set_cons_succ]
        refine wpAnyE_take 40 [] (some 124) (v := .bool true) rfl rfl (by kernel_rfl) (by kernel_rfl) (by kernel_rfl) (by kernel_rfl) (by kernel_rfl) (by kernel_rfl) (fun _ _ _ h => h) (by rfl) hHeld ?_ ?_
        · intro W hS
          obtain ⟨s1, s2, s3, s4, s5, s6, s7, s8, s9, s10, s11, s12⟩ := hS
          clear s9 s10 s11 s12
          go_simp
        simp only [Act.put, List.setIfInBounds_toArray, List.set_cons_zero, List.set_cons_succ]
        refine wpAnyE_take 41 [] (some 125) (v := .bool true) rfl rfl (by kernel_rfl) (by kernel_rfl) (by kernel_rfl) (by kernel_rfl) (by kernel_rfl) (by kernel_rfl) (fun _ _ _ h => h) (by rfl) hHeld ?_ ?_
        · intro W hS
          obtain ⟨s1, s2, s3, s4, s5, s6, s7, s8, s9, s10, s11, s12⟩ := hS
          clear s9 s10 s11 s12
          go_simp
        simp only [Act.put, List.setIfInBounds_toArray, List.set_cons_zero, List.set_cons_succ]
        refine wpAnyE_skip 42 [] (some 126) rfl rfl (by kernel_rfl) (by kernel_rfl) (by kernel_rfl) (by kernel_rfl) (by kernel_rfl) (by kernel_rfl) (fun _ _ _ h => h) (by rfl) hHeld ?_
        simp only [Act.put, List.setIfInBounds_toArray, List.set_cons_zero, List.set_cons_succ]
        refine wpAnyE_skip 43 [] (some 127) rfl rfl (by kernel_rfl) (by kernel_rfl) (by kernel_rfl) (by kernel_rfl) (by kernel_rfl) (by kernel_rfl) (fun _ _ _ h => h) (by rfl) hHeld ?_
        simp only [Act.put, List.setIfInBounds_toArray, List.set_cons_zero, List.set_cons_succ]
        refine wpAnyE_skip 44 [] (some 128) rfl rfl (by kernel_rfl) (by kernel_rfl) (by kernel_rfl) (by kernel_rfl) (by kernel_rfl) (by kernel_rfl) (fun _ _ _ h => h) (by rfl) hHeld ?_
        simp only [Act.put, List.setIfInBounds_toArray, List.set_cons_zero, List.set_cons_succ]
        refine wpAnyE_skip 45 [] (some 129) rfl rfl (by kernel_rfl) (by kernel_rfl) (by kernel_rfl) (by kernel_rfl) (by kernel_rfl) (by kernel_rfl) (fun _ _ _ h => h) (by rfl) hHeld ?_
        simp only [Act.put, List.setIfInBounds_toArray, List.set_cons_zero, List.set_cons_succ]
        refine wpAnyE_skip 46 [] (some 130) rfl rfl (by kernel_rfl) (by kernel_rfl) (by kernel_rfl) (by kernel_rfl) (by kernel_rfl) (by kernel_rfl) (fun _ _ _ h => h) (by rfl) hHeld ?_
        simp only [Act.put, List.setIfInBounds_toArray, List.set_cons_zero, List.set_cons_succ]
        refine wpAnyE_skip 47 [] (some 131) rfl rfl (by kernel_rfl) (by kernel_rfl) (by kernel_rfl) (by kernel_rfl) (by kernel_rfl) (by kernel_rfl) (fun _ _ _ h => h) (by rfl) hHeld ?_
        simp only [Act.put, List.setIfInBounds_toArray, List.set_cons_zero, List.set_cons_succ]
        refine wpAnyE_skip 48 [] (some 132) rfl rfl (by kernel_rfl) (by kernel_rfl) (by kernel_rfl) (by kernel_rfl) (by kernel_rfl) (by kernel_rfl) (fun _ _ _ h => h) (by rfl) hHeld ?_
        simp only [Act.put, List.setIfInBounds_toArray, List.set_cons_zero, List.set_cons_succ]
        refine wpAnyE_skip 49 [] (some 133) rfl rfl (by kernel_rfl) (by kernel_rfl) (by kernel_rfl) (by kernel_rfl) (by kernel_rfl) (by kernel_rfl) (fun _ _ _ h => h) (by rfl) hHeld ?_
        simp only [Act.put, List.setIfInBounds_toArray, List.set_cons_zero, List.set_cons_succ]
        refine wpAnyE_take 50 [] (some 134) (v := .bool true) rfl rfl (by kernel_rfl) (by kernel_rfl) (by kernel_rfl) (by kernel_rfl) (by kernel_rfl) (by kernel_rfl) (fun _ _ _ h => h) (by rfl) hHeld ?_ ?_
        · intro W hS
          obtain ⟨s1, s2, s3, s4, s5, s6, s7, s8, s9, s10, s11, s12⟩ := hS
          clear s9 s10 s11 s12
          go_simp
        simp only [Act.put, List.setIfInBounds_toArray, List.set_cons_zero, List.set_cons_succ]
        refine wpAnyE_take 51 [] (some 135) (v := .bool true) rfl rfl (by kernel_rfl) (by kernel_rfl) (by kernel_rfl) (by kernel_rfl) (by kernel_rfl) (by kernel_rfl) (fun _ _ _ h => h) (by rfl) hHeld ?_ ?_
        · intro W hS
          obtain ⟨s1, s2, s3, s4, s5, s6, s7, s8, s9, s10, s11, s12⟩ := hS
          clear s9 s10 s11 s12
          go_simp
        simp only [Act.put, List.setIfInBounds_toArray, List.set_cons_zero, List.set_cons_succ]
        refine wpAnyE_take 52 [] (some 136) (v := .bool true) rfl rfl (by kernel_rfl) (by kernel_rfl) (by kernel_rfl) (by kernel_rfl) (by kernel_rfl) (by kernel_rfl) (fun _ _ _ h => h) (by rfl) hHeld ?_ ?_
        · intro W hS
          obtain ⟨s1, s2, s3, s4, s5, s6, s7, s8, s9, s10, s11, s12⟩ := hS
          clear s9 s10 s11 s12
          go_simp
        simp only [Act.put, List.setIfInBounds_toArray, List.set_cons_zero, List.set_cons_succ]
        refine wpAnyE_one 53 (by kernel_rfl) rfl (fun K hK => ?_)
        go_simp
        refine (works_c _).mono ?_; rintro e9 wx ⟨rfl, hb9⟩
        have hHeld : SE w w3.heap.size (.int .u32 (Ah : Int)) (.int .u32 (Bh : Int)) (.int .u32 (Ch : Int)) (.int .u64 (b : Int)) (.int .u64 (e : Int)) (.slice A2 nH c2) (.slice Ar nr cr) (.bool true) (.slice A8 n8 c8) H (P ++ Q) R wx := keepE hb9 hHeld
        refine hK.out _ _ (fun _ => hHeld) ?_
        clear hK K
        try simp only [Act.put, List.setIfInBounds_toArray, List.set_cons_zero, List.set_cons_succ]
        refine wpAnyE_take 54 [] (some 138) (v := .bool true) rfl rfl (by kernel_rfl) (by kernel_rfl) (by kernel_rfl) (by kernel_rfl) (by kernel_rfl) (by kernel_rfl) (fun _ _ _ h => h) (by rfl) hHeld ?_ ?_
        · intro W hS
          obtain ⟨s1, s2, s3, s4, s5, s6, s7, s8, s9, s10, s11, s12⟩ := hS
          clear s9 s10 s11 s12
          go_simp
        simp only [Act.put, List.setIfInBounds_toArray, List.set_cons_zero, List.set_cons_succ]
        refine wpAnyE_take 55 [] (some 10) (v := .bool true) rfl rfl (by kernel_rfl) (by kernel_rfl) (by kernel_rfl) (by kernel_rfl) (by kernel_rfl) (by kernel_rfl) (fun _ _ _ h => h) (by rfl) hHeld ?_ ?_
        · intro W hS
          obtain ⟨s1, s2, s3, s4, s5, s6, s7, s8, s9, s10, s11, s12⟩ := hS
          clear s9 s10 s11 s12
          go_simp
        simp only [Act.put, List.setIfInBounds_toArray, List.set_cons_zero, List.set_cons_succ]
        refine wpAnyE_done (by kernel_rfl) ?_ _
        have hfin := hHeld.2.2.2.2.2.2.2.2.2.2.2
        clear hHeld
        go_wp2
        go_ret
        exact ⟨by first | rfl | (simp <;> omega), hfin⟩
      · have h9 : 0 < (P ++ Q).length := by have := HN8.out; omega
        have hR : R = Pl.mth ⟨Ah, Bh, Ch⟩ (P ++ Q) := by
          have h1 := HRM.out h9
          have h2 := HRT.out
          rw [HH.out, hb0] at h2
          rw [h2]
          exact h1
        have HM1 := Lib.hid (fun W (hW : HashesR W (.slice A8 n8 c8) (P ++ Q)) => HMT.out W A8 n8 c8 h9 hW)
        rw [← hR] at HM1
        unfold hashV at HM1
        simp only [] at HM1
        have u0 : ¬ (n8 : Int) = 0 := by omega
        have u1 : ((n8 : Int) == 0) = false := beq_eq_false_iff_ne.2 u0
        clear hR h9 HMT e5 e6
        refine wpAnyE_take 30 [] (some 114) (v := .bool true) rfl rfl (by kernel_rfl) (by kernel_rfl) (by kernel_rfl) (by kernel_rfl) (by kernel_rfl) (by kernel_rfl) (fun _ _ _ h => h) (by rfl) hHeld ?_ ?_
        · intro W hS
          obtain ⟨s1, s2, s3, s4, s5, s6, s7, s8, s9, s10, s11, s12⟩ := hS
          clear s9 s10 s11 s12
          go_simp
        simp only [Act.put, List.setIfInBounds_toArray, List.set_cons_zero, List.set_cons_succ]
        refine wpAnyE_take 31 [] (some 115) (v := .bool true) rfl rfl (by kernel_rfl) (by kernel_rfl) (by kernel_rfl) (by kernel_rfl) (by kernel_rfl) (by kernel_rfl) (fun _ _ _ h => h) (by rfl) hHeld ?_ ?_
        · intro W hS
          obtain ⟨s1, s2, s3, s4, s5, s6, s7, s8, s9, s10, s11, s12⟩ := hS
          clear s9 s10 s11 s12
          go_simp
        simp only [Act.put, List.setIfInBounds_toArray, List.set_cons_zero, List.set_cons_succ]
        refine wpAnyE_take 32 [] (some 116) (v := .bool true) rfl rfl (by kernel_rfl) (by kernel_rfl) (by kernel_rfl) (by kernel_rfl) (by kernel_rfl) (by kernel_rfl) (fun _ _ _ h => h) (by rfl) hHeld ?_ ?_
        · intro W hS
          obtain ⟨s1, s2, s3, s4, s5, s6, s7, s8, s9, s10, s11, s12⟩ := hS
          clear s9 s10 s11 s12
          go_simp
        simp only [Act.put, List.setIfInBounds_toArray, List.set_cons_zero, List.set_cons_succ]
        refine wpAnyE_take 33 [] (some 117) (v := .bool true) rfl rfl (by kernel_rfl) (by kernel_rfl) (by kernel_rfl) (by kernel_rfl) (by kernel_rfl) (by kernel_rfl) (fun _ _ _ h => h) (by rfl) hHeld ?_ ?_
        · intro W hS
          obtain ⟨s1, s2, s3, s4, s5, s6, s7, s8, s9, s10, s11, s12⟩ := hS
          clear s9 s10 s11 s12
          go_simp
        simp only [Act.put, List.setIfInBounds_toArray, List.set_cons_zero, List.set_cons_succ]
        refine wpAnyE_take 34 [] (some 118) (v := .int .u64 (b : Int)) rfl rfl (by kernel_rfl) (by kernel_rfl) (by kernel_rfl) (by kernel_rfl) (by kernel_rfl) (by kernel_rfl) (fun _ _ _ h => h) (by rfl) hHeld ?_ ?_
        · intro W hS
          obtain ⟨s1, s2, s3, s4, s5, s6, s7, s8, s9, s10, s11, s12⟩ := hS
          clear s9 s10 s11 s12
          go_simp
        simp only [Act.put, List.setIfInBounds_toArray, List.set_cons_zero, List.set_cons_succ]
        refine wpAnyE_take 35 [] (some 119) (v := .bool false) rfl rfl (by kernel_rfl) (by kernel_rfl) (by kernel_rfl) (by kernel_rfl) (by kernel_rfl) (by kernel_rfl) (fun _ _ _ h => h) (by rfl) hHeld ?_ ?_
        · intro W hS
          obtain ⟨s1, s2, s3, s4, s5, s6, s7, s8, s9, s10, s11, s12⟩ := hS
          clear s9 s10 s11 s12
          go_simp
        simp only [Act.put, List.setIfInBounds_toArray, List.set_cons_zero, List.set_cons_succ]
        refine wpAnyE_take 36 [] (some 120) (v := .bool false) rfl rfl (by kernel_rfl) (by kernel_rfl) (by kernel_rfl) (by kernel_rfl) (by kernel_rfl) (by kernel_rfl) (fun _ _ _ h => h) (by rfl) hHeld ?_ ?_
        · intro W hS
          obtain ⟨s1, s2, s3, s4, s5, s6, s7, s8, s9, s10, s11, s12⟩ := hS
          clear s9 s10 s11 s12
          go_simp
        simp only [Act.put, List.setIfInBounds_toArray, List.set_cons_zero, List.set_cons_succ]
        refine wpAnyE_take 37 [] (some 121) (v := .slice A8 n8 c8) rfl rfl (by kernel_rfl) (by kernel_rfl) (by kernel_rfl) (by kernel_rfl) (by kernel_rfl) (by kernel_rfl) (fun _ _ _ h => h) (by rfl) hHeld ?_ ?_
        · intro W hS
          obtain ⟨s1, s2, s3, s4, s5, s6, s7, s8, s9, s10, s11, s12⟩ := hS
          clear s9 s10 s11 s12
          go_simp
        simp only [Act.put, List.setIfInBounds_toArray, List.set_cons_zero, List.set_cons_succ]
        refine wpAnyE_take 38 [] (some 122) (v := .int .i64 (n8 : Int)) rfl rfl (by kernel_rfl) (by kernel_rfl) (by kernel_rfl) (by kernel_rfl) (by kernel_rfl) (by kernel_rfl) (fun _ _ _ h => h) (by rfl) hHeld ?_ ?_
        · intro W hS
          obtain ⟨s1, s2, s3, s4, s5, s6, s7, s8, s9, s10, s11, s12⟩ := hS
          clear s9 s10 s11 s12
          go_simp
        simp only [Act.put, List.setIfInBounds_toArray, List.set_cons_zero, List.set_cons_succ]
        refine wpAnyE_take 39 [] (some 123) (v := .bool false) rfl rfl (by kernel_rfl) (by kernel_rfl) (by kernel_rfl) (by kernel_rfl) (by kernel_rfl) (by kernel_rfl) (fun _ _ _ h => h) (by rfl) hHeld ?_ ?_
        · intro W hS
          obtain ⟨s1, s2, s3, s4, s5, s6, s7, s8, s9, s10, s11, s12⟩ := hS
          clear s9 s10 s11 s12
          go_simp
        simp only [Act.put, List.setIfInBounds_toArray, List.set_cons_zero, List.set_cons_succ]
        refine wpAnyE_take 40 [] (some 124) (v := .bool false) rfl rfl (by kernel_rfl) (by kernel_rfl) (by kernel_rfl) (by kernel_rfl) (by kernel_rfl) (by kernel_rfl) (fun _ _ _ h => h) (by rfl) hHeld ?_ ?_
        · intro W hS
          obtain ⟨s1, s2, s3, s4, s5, s6, s7, s8, s9, s10, s11, s12⟩ := hS
          clear s9 s10 s11 s12
          go_simp
        simp only [Act.put, List.setIfInBounds_toArray, List.set_cons_zero, List.set_cons_succ]
        refine wpAnyE_take 41 [] (some 125) (v := .bool false) rfl rfl (by kernel_rfl) (by kernel_rfl) (by kernel_rfl) (by kernel_rfl) (by kernel_rfl) (by kernel_rfl) (fun _ _ _ h => h) (by rfl) hHeld ?_ ?_
        · intro W hS
          obtain ⟨s1, s2, s3, s4, s5, s6, s7, s8, s9, s10, s11, s12⟩ := hS
          clear s9 s10 s11 s12
          go_simp
        simp only [Act.put, List.setIfInBounds_toArray, List.set_cons_zero, List.set_cons_succ]
        refine wpAnyE_take 42 [] (some 126) (v := .pointer (some ⟨w3.heap.size, 3, none⟩)) rfl rfl (by kernel_rfl) (by kernel_rfl) (by kernel_rfl) (by kernel_rfl) (by kernel_rfl) (by kernel_rfl) (fun _ _ _ h => h) (by rfl) hHeld ?_ ?_
        · intro W hS
          obtain ⟨s1, s2, s3, s4, s5, s6, s7, s8, s9, s10, s11, s12⟩ := hS
          clear s9 s10 s11 s12
          go_simp
        simp only [Act.put, List.setIfInBounds_toArray, List.set_cons_zero, List.set_cons_succ]
        refine wpAnyE_take 43 [] (some 127) (v := .slice Ar nr cr) rfl rfl (by kernel_rfl) (by kernel_rfl) (by kernel_rfl) (by kernel_rfl) (by kernel_rfl) (by kernel_rfl) (fun _ _ _ h => h) (by rfl) hHeld ?_ ?_
        · intro W hS
          obtain ⟨s1, s2, s3, s4, s5, s6, s7, s8, s9, s10, s11, s12⟩ := hS
          clear s9 s10 s11 s12
          go_simp
        simp only [Act.put, List.setIfInBounds_toArray, List.set_cons_zero, List.set_cons_succ]
        refine wpAnyE_take 44 [] (some 128) (v := .string (bs R)) rfl rfl (by kernel_rfl) (by kernel_rfl) (by kernel_rfl) (by kernel_rfl) (by kernel_rfl) (by kernel_rfl) (fun _ _ _ h => h) (by rfl) hHeld ?_ ?_
        · intro W hS
          obtain ⟨s1, s2, s3, s4, s5, s6, s7, s8, s9, s10, s11, s12⟩ := hS
          have zz := s11.str
          clear s9 s10 s11 s12
          go_simp
        simp only [Act.put, List.setIfInBounds_toArray, List.set_cons_zero, List.set_cons_succ]
        refine wpAnyE_take 45 [] (some 129) (v := .agg #[.int .u32 (Ah : Int), .int .u32 (Bh : Int), .int .u32 (Ch : Int)]) rfl rfl (by kernel_rfl) (by kernel_rfl) (by kernel_rfl) (by kernel_rfl) (by kernel_rfl) (by kernel_rfl) (fun _ _ _ h => h) (by rfl) hHeld ?_ ?_
        · intro W hS
          obtain ⟨s1, s2, s3, s4, s5, s6, s7, s8, s9, s10, s11, s12⟩ := hS
          clear s9 s10 s11 s12
          go_simp
        simp only [Act.put, List.setIfInBounds_toArray, List.set_cons_zero, List.set_cons_succ]
        refine wpAnyE_take 46 [] (some 130) (v := .slice A8 n8 c8) rfl rfl (by kernel_rfl) (by kernel_rfl) (by kernel_rfl) (by kernel_rfl) (by kernel_rfl) (by kernel_rfl) (fun _ _ _ h => h) (by rfl) hHeld ?_ ?_
        · intro W hS
          obtain ⟨s1, s2, s3, s4, s5, s6, s7, s8, s9, s10, s11, s12⟩ := hS
          clear s9 s10 s11 s12
          go_simp
        simp only [Act.put, List.setIfInBounds_toArray, List.set_cons_zero, List.set_cons_succ]
        refine wpAnyE_one 47 (by kernel_rfl) rfl (fun K hK => ?_)
        go_simp
        refine (HM1.out _ hHeld.2.2.2.2.2.2.2.2.2.1).mono ?_; rintro e9 wx ⟨um, rfl, hum, hb9⟩
        have hHeld : SE w w3.heap.size (.int .u32 (Ah : Int)) (.int .u32 (Bh : Int)) (.int .u32 (Ch : Int)) (.int .u64 (b : Int)) (.int .u64 (e : Int)) (.slice A2 nH c2) (.slice Ar nr cr) (.bool true) (.slice A8 n8 c8) H (P ++ Q) R wx := keepE hb9 hHeld
        have zz := hum.str
        refine hK.out _ _ (fun _ => hHeld) ?_
        clear hK K
        try simp only [Act.put, List.setIfInBounds_toArray, List.set_cons_zero, List.set_cons_succ]
        refine wpAnyE_one 48 (by kernel_rfl) rfl (fun K hK => ?_)
        go_simp
        refine hK.out _ _ (fun _ => hHeld) ?_
        clear hK K zz hum
        try simp only [Act.put, List.setIfInBounds_toArray, List.set_cons_zero, List.set_cons_succ]
        refine wpAnyE_take 49 [] (some 133) (v := .bool true) rfl rfl (by kernel_rfl) (by kernel_rfl) (by kernel_rfl) (by kernel_rfl) (by kernel_rfl) (by kernel_rfl) (fun _ _ _ h => h) (by rfl) hHeld ?_ ?_
        · intro W hS
          obtain ⟨s1, s2, s3, s4, s5, s6, s7, s8, s9, s10, s11, s12⟩ := hS
          clear s9 s10 s11 s12
          go_simp
        simp only [Act.put, List.setIfInBounds_toArray, List.set_cons_zero, List.set_cons_succ]
        refine wpAnyE_take 50 [] (some 134) (v := .bool true) rfl rfl (by kernel_rfl) (by kernel_rfl) (by kernel_rfl) (by kernel_rfl) (by kernel_rfl) (by kernel_rfl) (fun _ _ _ h => h) (by rfl) hHeld ?_ ?_
        · intro W hS
          obtain ⟨s1, s2, s3, s4, s5, s6, s7, s8, s9, s10, s11, s12⟩ := hS
          clear s9 s10 s11 s12
          go_simp
        simp only [Act.put, List.setIfInBounds_toArray, List.set_cons_zero, List.set_cons_succ]
        refine wpAnyE_take 51 [] (some 135) (v := .bool true) rfl rfl (by kernel_rfl) (by kernel_rfl) (by kernel_rfl) (by kernel_rfl) (by kernel_rfl) (by kernel_rfl) (fun _ _ _ h => h) (by rfl) hHeld ?_ ?_
        · intro W hS
          obtain ⟨s1, s2, s3, s4, s5, s6, s7, s8, s9, s10, s11, s12⟩ := hS
          clear s9 s10 s11 s12
          go_simp
        simp only [Act.put, List.setIfInBounds_toArray, List.set_cons_zero, List.set_cons_succ]
        refine wpAnyE_take 52 [] (some 136) (v := .bool true) rfl rfl (by kernel_rfl) (by kernel_rfl) (by kernel_rfl) (by kernel_rfl) (by kernel_rfl) (by kernel_rfl) (fun _ _ _ h => h) (by rfl) hHeld ?_ ?_
        · intro W hS
          obtain ⟨s1, s2, s3, s4, s5, s6, s7, s8, s9, s10, s11, s12⟩ := hS
          clear s9 s10 s11 s12
          go_simp
        simp only [Act.put, List.setIfInBounds_toArray, List.set_cons_zero, List.set_cons_succ]
        refine wpAnyE_one 53 (by kernel_rfl) rfl (fun K hK => ?_)
        go_simp
        refine (works_c _).mono ?_; rintro e9 wx ⟨rfl, hb9⟩
        have hHeld : SE w w3.heap.size (.int .u32 (Ah : Int)) (.int .u32 (Bh : Int)) (.int .u32 (Ch : Int)) (.int .u64 (b : Int)) (.int .u64 (e : Int)) (.slice A2 nH c2) (.slice Ar nr cr) (.bool true) (.slice A8 n8 c8) H (P ++ Q) R wx := keepE hb9 hHeld
        refine hK.out _ _ (fun _ => hHeld) ?_
        clear hK K
        try simp only [Act.put, List.setIfInBounds_toArray, List.set_cons_zero, List.set_cons_succ]
        refine wpAnyE_take 54 [] (some 138) (v := .bool true) rfl rfl (by kernel_rfl) (by kernel_rfl) (by kernel_rfl) (by kernel_rfl) (by kernel_rfl) (by kernel_rfl) (fun _ _ _ h => h) (by rfl) hHeld ?_ ?_
        · intro W hS
          obtain ⟨s1, s2, s3, s4, s5, s6, s7, s8, s9, s10, s11, s12⟩ := hS
          clear s9 s10 s11 s12
          go_simp
        simp only [Act.put, List.setIfInBounds_toArray, List.set_cons_zero, List.set_cons_succ]
        refine wpAnyE_take 55 [] (some 10) (v := .bool true) rfl rfl (by kernel_rfl) (by kernel_rfl) (by kernel_rfl) (by kernel_rfl) (by kernel_rfl) (by kernel_rfl) (fun _ _ _ h => h) (by rfl) hHeld ?_ ?_
        · intro W hS
          obtain ⟨s1, s2, s3, s4, s5, s6, s7, s8, s9, s10, s11, s12⟩ := hS
          clear s9 s10 s11 s12
          go_simp
        simp only [Act.put, List.setIfInBounds_toArray, List.set_cons_zero, List.set_cons_succ]
        refine wpAnyE_done (by kernel_rfl) ?_ _
        have hfin := hHeld.2.2.2.2.2.2.2.2.2.2.2
        clear hHeld
        go_wp2
        go_ret
        exact ⟨by first | rfl | (simp <;> omega), hfin⟩
    · obtain rfl : kb = false := by rw [HKB.out]; exact decide_eq_false hb0
      have t0 : ¬ (b : Int) = 0 := by omega
      have t1 : ((b : Int) == 0) = false := beq_eq_false_iff_ne.2 t0
      have t2 : (0 : Int) < (b : Int) := by omega
      have t3 : decide ((0 : Int) < (b : Int)) = true := decide_eq_true t2
      have t4 : 0 < b := by omega
      clear HMT e5 e6
      refine wpAnyE_take 30 [] (some 114) (v := .bool false) rfl rfl (by kernel_rfl) (by kernel_rfl) (by kernel_rfl) (by kernel_rfl) (by kernel_rfl) (by kernel_rfl) (fun _ _ _ h => h) (by rfl) hHeld ?_ ?_
      · intro W hS
        obtain ⟨s1, s2, s3, s4, s5, s6, s7, s8, s9, s10, s11, s12⟩ := hS
        clear s9 s10 s11 s12
        go_simp
      simp only [Act.put, List.setIfInBounds_toArray, List.set_cons_zero, List.set_cons_succ]
      refine wpAnyE_take 31 [] (some 115) (v := .bool true) rfl rfl (by kernel_rfl) (by kernel_rfl) (by kernel_rfl) (by kernel_rfl) (by kernel_rfl) (by kernel_rfl) (fun _ _ _ h => h) (by rfl) hHeld ?_ ?_
      · intro W hS
        obtain ⟨s1, s2, s3, s4, s5, s6, s7, s8, s9, s10, s11, s12⟩ := hS
        clear s9 s10 s11 s12
        go_simp
      simp only [Act.put, List.setIfInBounds_toArray, List.set_cons_zero, List.set_cons_succ]
      refine wpAnyE_take 32 [] (some 116) (v := .bool true) rfl rfl (by kernel_rfl) (by kernel_rfl) (by kernel_rfl) (by kernel_rfl) (by kernel_rfl) (by kernel_rfl) (fun _ _ _ h => h) (by rfl) hHeld ?_ ?_
      · intro W hS
        obtain ⟨s1, s2, s3, s4, s5, s6, s7, s8, s9, s10, s11, s12⟩ := hS
        clear s9 s10 s11 s12
        go_simp
      simp only [Act.put, List.setIfInBounds_toArray, List.set_cons_zero, List.set_cons_succ]
      refine wpAnyE_take 33 [] (some 117) (v := .bool true) rfl rfl (by kernel_rfl) (by kernel_rfl) (by kernel_rfl) (by kernel_rfl) (by kernel_rfl) (by kernel_rfl) (fun _ _ _ h => h) (by rfl) hHeld ?_ ?_
      · intro W hS
        obtain ⟨s1, s2, s3, s4, s5, s6, s7, s8, s9, s10, s11, s12⟩ := hS
        clear s9 s10 s11 s12
        go_simp
      simp only [Act.put, List.setIfInBounds_toArray, List.set_cons_zero, List.set_cons_succ]
      refine wpAnyE_take 34 [] (some 118) (v := .int .u64 (b : Int)) rfl rfl (by kernel_rfl) (by kernel_rfl) (by kernel_rfl) (by kernel_rfl) (by kernel_rfl) (by kernel_rfl) (fun _ _ _ h => h) (by rfl) hHeld ?_ ?_
      · intro W hS
        obtain ⟨s1, s2, s3, s4, s5, s6, s7, s8, s9, s10, s11, s12⟩ := hS
        clear s9 s10 s11 s12
        go_simp
      simp only [Act.put, List.setIfInBounds_toArray, List.set_cons_zero, List.set_cons_succ]
      refine wpAnyE_take 35 [] (some 119) (v := .bool true) rfl rfl (by kernel_rfl) (by kernel_rfl) (by kernel_rfl) (by kernel_rfl) (by kernel_rfl) (by kernel_rfl) (fun _ _ _ h => h) (by rfl) hHeld ?_ ?_
      · intro W hS
        obtain ⟨s1, s2, s3, s4, s5, s6, s7, s8, s9, s10, s11, s12⟩ := hS
        clear s9 s10 s11 s12
        go_simp
      simp only [Act.put, List.setIfInBounds_toArray, List.set_cons_zero, List.set_cons_succ]
      refine wpAnyE_take 36 [] (some 120) (v := .bool true) rfl rfl (by kernel_rfl) (by kernel_rfl) (by kernel_rfl) (by kernel_rfl) (by kernel_rfl) (by kernel_rfl) (fun _ _ _ h => h) (by rfl) hHeld ?_ ?_
      · intro W hS
        obtain ⟨s1, s2, s3, s4, s5, s6, s7, s8, s9, s10, s11, s12⟩ := hS
        clear s9 s10 s11 s12
        go_simp
      simp only [Act.put, List.setIfInBounds_toArray, List.set_cons_zero, List.set_cons_succ]
      refine wpAnyE_skip 37 [] (some 121) rfl rfl (by kernel_rfl) (by kernel_rfl) (by kernel_rfl) (by kernel_rfl) (by kernel_rfl) (by kernel_rfl) (fun _ _ _ h => h) (by rfl) hHeld ?_
      simp only [Act.put, List.setIfInBounds_toArray, List.set_cons_zero, List.set_cons_succ]
      refine wpAnyE_skip 38 [] (some 122) rfl rfl (by kernel_rfl) (by kernel_rfl) (by kernel_rfl) (by kernel_rfl) (by kernel_rfl) (by kernel_rfl) (fun _ _ _ h => h) (by rfl) hHeld ?_
      simp only [Act.put, List.setIfInBounds_toArray, List.set_cons_zero, List.set_cons_succ]
      refine wpAnyE_skip 39 [] (some 123) rfl rfl (by kernel_rfl) (by kernel_rfl) (by kernel_rfl) (by kernel_rfl) (by kernel_rfl) (by kernel_rfl) (fun _ _ _ h => h) (by rfl) hHeld ?_
      simp only [Act.put, List.setIfInBounds_toArray, List.set_cons_zero, List.set_cons_succ]
      refine wpAnyE_take 40 [] (some 124) (v := .bool true) rfl rfl (by kernel_rfl) (by kernel_rfl) (by kernel_rfl) (by kernel_rfl) (by kernel_rfl) (by kernel_rfl) (fun _ _ _ h => h) (by rfl) hHeld ?_ ?_
      · intro W hS
        obtain ⟨s1, s2, s3, s4, s5, s6, s7, s8, s9, s10, s11, s12⟩ := hS
        clear s9 s10 s11 s12
        go_simp
      simp only [Act.put, List.setIfInBounds_toArray, List.set_cons_zero, List.set_cons_succ]
      refine wpAnyE_take 41 [] (some 125) (v := .bool true) rfl rfl (by kernel_rfl) (by kernel_rfl) (by kernel_rfl) (by kernel_rfl) (by kernel_rfl) (by kernel_rfl) (fun _ _ _ h => h) (by rfl) hHeld ?_ ?_
      · intro W hS
        obtain ⟨s1, s2, s3, s4, s5, s6, s7, s8, s9, s10, s11, s12⟩ := hS
        clear s9 s10 s11 s12
        go_simp
      simp only [Act.put, List.setIfInBounds_toArray, List.set_cons_zero, List.set_cons_succ]
      refine wpAnyE_skip 42 [] (some 126) rfl rfl (by kernel_rfl) (by kernel_rfl) (by kernel_rfl) (by kernel_rfl) (by kernel_rfl) (by kernel_rfl) (fun _ _ _ h => h) (by rfl) hHeld ?_
      simp only [Act.put, List.setIfInBounds_toArray, List.set_cons_zero, List.set_cons_succ]
      refine wpAnyE_skip 43 [] (some 127) rfl rfl (by kernel_rfl) (by kernel_rfl) (by kernel_rfl) (by kernel_rfl) (by kernel_rfl) (by kernel_rfl) (fun _ _ _ h => h) (by rfl) hHeld ?_
      simp only [Act.put, List.setIfInBounds_toArray, List.set_cons_zero, List.set_cons_succ]
      refine wpAnyE_skip 44 [] (some 128) rfl rfl (by kernel_rfl) (by kernel_rfl) (by kernel_rfl) (by kernel_rfl) (by kernel_rfl) (by kernel_rfl) (fun _ _ _ h => h) (by rfl) hHeld ?_
      simp only [Act.put, List.setIfInBounds_toArray, List.set_cons_zero, List.set_cons_succ]
      refine wpAnyE_skip 45 [] (some 129) rfl rfl (by kernel_rfl) (by kernel_rfl) (by kernel_rfl) (by kernel_rfl) (by kernel_rfl) (by kernel_rfl) (fun _ _ _ h => h) (by rfl) hHeld ?_
      simp only [Act.put, List.setIfInBounds_toArray, List.set_cons_zero, List.set_cons_succ]
      refine wpAnyE_skip 46 [] (some 130) rfl rfl (by kernel_rfl) (by kernel_rfl) (by kernel_rfl) (by kernel_rfl) (by kernel_rfl) (by kernel_rfl) (fun _ _ _ h => h) (by rfl) hHeld ?_
      simp only [Act.put, List.setIfInBounds_toArray, List.set_cons_zero, List.set_cons_succ]
      refine wpAnyE_skip 47 [] (some 131) rfl rfl (by kernel_rfl) (by kernel_rfl) (by kernel_rfl) (by kernel_rfl) (by kernel_rfl) (by kernel_rfl) (fun _ _ _ h => h) (by rfl) hHeld ?_
      simp only [Act.put, List.setIfInBounds_toArray, List.set_cons_zero, List.set_cons_succ]
      refine wpAnyE_skip 48 [] (some 132) rfl rfl (by kernel_rfl) (by kernel_rfl) (by kernel_rfl) (by kernel_rfl) (by kernel_rfl) (by kernel_rfl) (fun _ _ _ h => h) (by rfl) hHeld ?_
      simp only [Act.put, List.setIfInBounds_toArray, List.set_cons_zero, List.set_cons_succ]
      refine wpAnyE_skip 49 [] (some 133) rfl rfl (by kernel_rfl) (by kernel_rfl) (by kernel_rfl) (by kernel_rfl) (by kernel_rfl) (by kernel_rfl) (fun _ _ _ h => h) (by rfl) hHeld ?_
      simp only [Act.put, List.setIfInBounds_toArray, List.set_cons_zero, List.set_cons_succ]
      refine wpAnyE_take 50 [] (some 134) (v := .bool true) rfl rfl (by kernel_rfl) (by kernel_rfl) (by kernel_rfl) (by kernel_rfl) (by kernel_rfl) (by kernel_rfl) (fun _ _ _ h => h) (by rfl) hHeld ?_ ?_
      · intro W hS
        obtain ⟨s1, s2, s3, s4, s5, s6, s7, s8, s9, s10, s11, s12⟩ := hS
        clear s9 s10 s11 s12
        go_simp
      simp only [Act.put, List.setIfInBounds_toArray, List.set_cons_zero, List.set_cons_succ]
      refine wpAnyE_take 51 [] (some 135) (v := .bool true) rfl rfl (by kernel_rfl) (by kernel_rfl) (by kernel_rfl) (by kernel_rfl) (by kernel_rfl) (by kernel_rfl) (fun _ _ _ h => h) (by rfl) hHeld ?_ ?_
      · intro W hS
        obtain ⟨s1, s2, s3, s4, s5, s6, s7, s8, s9, s10, s11, s12⟩ := hS
        clear s9 s10 s11 s12
        go_simp
      simp only [Act.put, List.setIfInBounds_toArray, List.set_cons_zero, List.set_cons_succ]
      refine wpAnyE_take 52 [] (some 136) (v := .bool true) rfl rfl (by kernel_rfl) (by kernel_rfl) (by kernel_rfl) (by kernel_rfl) (by kernel_rfl) (by kernel_rfl) (fun _ _ _ h => h) (by rfl) hHeld ?_ ?_
      · intro W hS
        obtain ⟨s1, s2, s3, s4, s5, s6, s7, s8, s9, s10, s11, s12⟩ := hS
        clear s9 s10 s11 s12
        go_simp
      simp only [Act.put, List.setIfInBounds_toArray, List.set_cons_zero, List.set_cons_succ]
      refine wpAnyE_one 53 (by kernel_rfl) rfl (fun K hK => ?_)
      go_simp
      refine (works_c _).mono ?_; rintro e9 wx ⟨rfl, hb9⟩
      have hHeld : SE w w3.heap.size (.int .u32 (Ah : Int)) (.int .u32 (Bh : Int)) (.int .u32 (Ch : Int)) (.int .u64 (b : Int)) (.int .u64 (e : Int)) (.slice A2 nH c2) (.slice Ar nr cr) (.bool false) (.slice A8 n8 c8) H (P ++ Q) R wx := keepE hb9 hHeld
      refine hK.out _ _ (fun _ => hHeld) ?_
      clear hK K
      try simp only [Act.put, List.setIfInBounds_toArray, List.set_cons_zero, List.set_cons_succ]
      refine wpAnyE_take 54 [] (some 138) (v := .bool true) rfl rfl (by kernel_rfl) (by kernel_rfl) (by kernel_rfl) (by kernel_rfl) (by kernel_rfl) (by kernel_rfl) (fun _ _ _ h => h) (by rfl) hHeld ?_ ?_
      · intro W hS
        obtain ⟨s1, s2, s3, s4, s5, s6, s7, s8, s9, s10, s11, s12⟩ := hS
        clear s9 s10 s11 s12
        go_simp
      simp only [Act.put, List.setIfInBounds_toArray, List.set_cons_zero, List.set_cons_succ]
      refine wpAnyE_take 55 [] (some 10) (v := .bool true) rfl rfl (by kernel_rfl) (by kernel_rfl) (by kernel_rfl) (by kernel_rfl) (by kernel_rfl) (by kernel_rfl) (fun _ _ _ h => h) (by rfl) hHeld ?_ ?_
      · intro W hS
        obtain ⟨s1, s2, s3, s4, s5, s6, s7, s8, s9, s10, s11, s12⟩ := hS
        clear s9 s10 s11 s12
        go_simp
      simp only [Act.put, List.setIfInBounds_toArray, List.set_cons_zero, List.set_cons_succ]
      refine wpAnyE_done (by kernel_rfl) ?_ _
      have hfin := hHeld.2.2.2.2.2.2.2.2.2.2.2
      clear hHeld
      go_wp2
      go_ret
      exact ⟨by first | rfl | (simp <;> omega), hfin⟩
set_option maxHeartbeats 8000000 in
theorem main_ne (F : Stop.Interp) (h : Pl.HF) (ok : h.ok) (b z : Nat) (Av Aq : Option Addr) (cv cq : Nat) (P Q : List (List Nat)) (w : World) (hF : F.answers w.tape) (hT : Tab w) (hv : HashesR w (.slice Av P.length cv) P) (hq : HashesR w (.slice Aq Q.length cq) Q) (HFP : Hid (∀ W, Below w.heap.size w W → Calls Tryf.prog 14 #[.slice Av P.length cv] W fun e w' => e = .returned (.bool true) ∧ W = w')) (HFQ : Hid (∀ W, Below w.heap.size w W → Calls Tryf.prog 14 #[.slice Aq Q.length cq] W fun e w' => e = .returned (.bool true) ∧ W = w')) (hb : b ≤ 1152921504606846976) (hz : z ≤ 1152921504606846976) (hn : P.length ≤ 100) (hm : Q.length ≤ 100) (h2 : ∀ x ∈ P, x.length = 2) (h3 : ∀ x ∈ Q, x.length = 2) (HEP : P.length ≠ 0 → Hid (∀ W, Below w.heap.size w W → Calls Tryf.prog 15 #[.slice Av P.length cv] W fun e w' => e = .returned (.bool true) ∧ W = w')) (HEQ : Q.length ≠ 0 → Hid (∀ W, Below w.heap.size w W → Calls Tryf.prog 15 #[.slice Aq Q.length cq] W fun e w' => e = .returned (.bool true) ∧ W = w')) (hzb : z ≠ b + P.length) :
    Calls Tryf.prog 12 #[hashV h, .int .u64 (b : Int), .slice Av P.length cv, .int .u64 (z : Int), .slice Aq Q.length cq] w fun e w' => e = .returned (.bool true) ∧ Below w.heap.size w w' := by
  have HB := Lib.hid (fun C => (Below.refl w.heap.size w).alloc (Nat.le_refl _) (.cells C 24))
  have HV := Lib.hid hv
  have HQ := Lib.hid hq
  have HT := Lib.hid hT
  have HF := Lib.hid hF
  have HOK := Lib.hid ok
  have HAR := Lib.hid (fun W (hW : Below w.heap.size w W) => ar_no F h ok (Pl.lv P b) (Pl.lv Q z) b z (.slice Av P.length cv) (.slice Aq Q.length cq) P Q W hzb (lv_own P b) (lv_own Q z) (ans_below hF hW) (hv.below hW) (hq.below hW) h2 h3 ⟨by omega, by omega⟩ (hT.below hW))
  have HL := Lib.hid (show P.length + Q.length ≤ 200 ∧ P.length ≤ 100 ∧ (P ++ Q).length = P.length + Q.length from ⟨by omega, by omega, by simp⟩)
  have HZB := Lib.hid hzb
  have HBB := Lib.hid (show b ≤ 1152921504606846976 ∧ z ≤ 1152921504606846976 from ⟨hb, hz⟩)
  have hb1 : (b : Int) ≤ 1152921504606846976 := by omega
  have hz1 : (z : Int) ≤ 1152921504606846976 := by omega
  have e1 : IntKind.u64.wrap ((P.length : Nat) : Int) = ((P.length : Nat) : Int) := wrapN _ (by omega)
  obtain ⟨y, hy⟩ : ∃ y, y = b + P.length := ⟨_, rfl⟩
  have e2 : IntKind.u64.wrap ((b : Int) + ((P.length : Nat) : Int)) = (y : Int) := by have := wrapN y (by omega); rw [← this]; congr 1; omega
  have e3 : ¬ (z : Int) = (y : Int) := by omega
  have e4 : ((z : Int) == (y : Int)) = false := beq_eq_false_iff_ne.2 e3
  clear hy
  clear hv hq hT hF ok h2 h3 hb hz hzb
  generalize hnn : P.length = n at *
  generalize hmm : Q.length = m at *
  have HNN := Lib.hid hnn
  have HMM := Lib.hid hmm
  clear hnn hmm
  have HNB := Lib.hid hn
  have HMB := Lib.hid hm
  have hn1 : (n : Int) ≤ 100 := by omega
  have hm1 : (m : Int) ≤ 100 := by omega
  clear hn hm
  obtain ⟨Ah, Bh, Ch⟩ := h
  unfold hashV
  go_enter Tryf.func12, Tryf.ntmps12
  go_wp2_with fail
  refine (HFP.out _ (HB.out _)).mono ?_; rintro e w' ⟨rfl, rfl⟩
  go_wp2_with fail
  refine (HFQ.out _ (HB.out _)).mono ?_; rintro e w' ⟨rfl, rfl⟩
  go_upto_region 3 with fail
  go_cut [57] (fun c wx => c = .bool false ∧ wx = w.alloc (.cells #[.int .u32 (Ah : Int), .int .u32 (Bh : Int), .int .u32 (Ch : Int)] 24))
  case first =>
    by_cases p0 : n = 0
    · by_cases q0 : m = 0
      · clear HEP HEQ hn1 hm1
        subst p0
        subst q0
        go_wp2_with fail
        go_meet
        exact ⟨by simp <;> omega, rfl⟩
      · have HE2 := HEQ q0
        have zq1 : (0 : Int) < (m : Int) := by omega
        clear HEP HEQ
        subst p0
        clear q0
        go_wp2_with fail
        refine (HE2.out _ (HB.out _)).mono ?_; rintro e w' ⟨rfl, rfl⟩
        go_wp2_with fail
        go_meet
        exact ⟨by simp <;> omega, rfl⟩
    · by_cases q0 : m = 0
      · have HE1 := HEP p0
        have zp1 : (0 : Int) < (n : Int) := by omega
        clear HEP HEQ
        clear p0
        subst q0
        go_wp2_with fail
        refine (HE1.out _ (HB.out _)).mono ?_; rintro e w' ⟨rfl, rfl⟩
        go_wp2_with fail
        go_meet
        exact ⟨by simp <;> omega, rfl⟩
      · have HE1 := HEP p0
        have zp1 : (0 : Int) < (n : Int) := by omega
        have HE2 := HEQ q0
        have zq1 : (0 : Int) < (m : Int) := by omega
        clear HEP HEQ
        clear p0
        clear q0
        go_wp2_with fail
        refine (HE1.out _ (HB.out _)).mono ?_; rintro e w' ⟨rfl, rfl⟩
        go_wp2_with fail
        refine (HE2.out _ (HB.out _)).mono ?_; rintro e w' ⟨rfl, rfl⟩
        go_wp2_with fail
        go_meet
        exact ⟨by simp <;> omega, rfl⟩
  case rest =>
    obtain ⟨rfl, rfl⟩ := hcut
    clear HEP HEQ HFP HFQ hn1 hm1
    go_wp2_with fail
    refine (HAR.out _ (HB.out _)).mono ?_; rintro r w3 ⟨rfl, hb3⟩
    have HKH : Hid (Blk w3 w.heap.size 24 #[.int .u32 (Ah : Int), .int .u32 (Bh : Int), .int .u32 (Ch : Int)]) := Lib.hid ((Blk.new w _ _).below' hb3)
    have HB3 := Lib.hid ((HB.out #[.int .u32 (Ah : Int), .int .u32 (Bh : Int), .int .u32 (Ch : Int)]).trans (hb3.mono (HB.out _).size))
    clear hb3 HAR
    have BA : Below w3.heap.size w3 (w3.alloc (.cells #[.int .u64 0, .int .u64 0, .slice none 0 0, .slice none 0 0, .bool false, .slice none 0 0, .slice none 0 0] 31)) := (Below.refl _ _).alloc (Nat.le_refl _) _
    have HA0 := AllR.start (W0 := w) (w := w3.alloc (.cells #[.int .u64 0, .int .u64 0, .slice none 0 0, .slice none 0 0, .bool false, .slice none 0 0, .slice none 0 0] 31)) (HB3.out.trans (BA.mono HB3.out.size)) (HB3.out.trans (BA.mono HB3.out.size)).size
    rw [World.size_alloc] at HA0
    have HA0' := Lib.hid HA0
    have HBA := Lib.hid BA
    clear HA0 BA
    go_wp2_with (first
      | (at_builtin
         refine wpList_append_all rfl (.tmp 67) (.tmp 68) rfl (w3.heap.size + 1) _ [] P HA0'.out rfl Av n cv rfl HV.out (by have := HL.out; have := HNN.out; simp; omega) ?_
         intro A5 n5 c5 w5 hn5 hA5 hb5
         rw [List.nil_append] at hn5 hA5
         have HN5 := Lib.hid hn5
         have HA5 := Lib.hid hA5
         have HB5 := Lib.hid hb5
         clear hn5 hA5 hb5)
      | (at_builtin
         refine wpList_append_all rfl (.tmp 69) (.tmp 70) rfl (w3.heap.size + 1) _ P Q HA5.out rfl Aq m cq rfl HQ.out (by have := HL.out; have := HNN.out; have := HMM.out; omega) ?_
         intro A8 n8 c8 w8 hn8 hA8 hb8
         have HN8 := Lib.hid hn8
         have HA8 := Lib.hid hA8
         have HB8 := Lib.hid hb8
         clear hn8 hA8 hb8)
      | fail)
    refine (works_c _).mono ?_; rintro r w9 ⟨rfl, hb9⟩
    have BF := HA8.out.1.trans (hb9.mono HA8.out.1.size)
    clear hb9
    go_wp2_with fail
    go_ret
    exact ⟨rfl, BF⟩
set_option maxHeartbeats 4000000 in
theorem walk (F : Stop.Interp) (w : World) (hF : F.answers w.tape) (h : Pl.HF) (ok : h.ok) (a1 : Int) (w1 : 0 ≤ a1 ∧ a1 < 18446744073709551616) (v : Value) (P : List (List Nat)) (hv : HashesR w v P) (a2 : Int) (w2 : 0 ≤ a2 ∧ a2 < 18446744073709551616) (u : Value) (Q : List (List Nat)) (hq : HashesR w u Q) (hT : LaidIs w) :
    Calls Tryf.prog 12 #[hashV h, .int .u64 a1, v, .int .u64 a2, u] w fun e w' => e = .returned (.bool true) ∧ Below w.heap.size w w' := by
  obtain ⟨b, rfl⟩ := Int.eq_ofNat_of_zero_le w1.1
  have hbs : b < 18446744073709551616 := by omega
  clear w1
  obtain ⟨z, rfl⟩ := Int.eq_ofNat_of_zero_le w2.1
  have hzs : z < 18446744073709551616 := by omega
  clear w2
  have HB := Lib.hid (fun C => (Below.refl w.heap.size w).alloc (Nat.le_refl _) (.cells C 24))
  obtain ⟨Av, cv, ev, h9v⟩ := id hv
  clear h9v
  subst ev
  obtain ⟨Aq, cq, eq, h9q⟩ := id hq
  clear h9q
  subst eq
  by_cases g0 : ¬ Fits P
  case pos =>
    have HFx : Hid (∀ W, Below w.heap.size w W → Calls Tryf.prog 14 #[.slice Av P.length cv] W fun e w' => e = .returned (.bool false) ∧ W = w') := Lib.hid (fun W hb => (fits1_c (.slice Av P.length cv) P W (hv.below hb)).mono fun _ _ r => r.no g0)
    clear hbs hzs hT hF hv hq ok g0
    obtain ⟨Ah, Bh, Ch⟩ := h
    unfold hashV
    go_enter Tryf.func12, Tryf.ntmps12
    go_wp2_with fail
    refine (HFx.out _ (HB.out _)).mono ?_; rintro e w' ⟨rfl, rfl⟩
    go_wp2_with fail
    go_ret
    exact ⟨rfl, HB.out _⟩
  have gfP : Fits P := Classical.not_not.1 g0
  clear g0
  have HFP : Hid (∀ W, Below w.heap.size w W → Calls Tryf.prog 14 #[.slice Av P.length cv] W fun e w' => e = .returned (.bool true) ∧ W = w') := Lib.hid (fun W hb => (fits1_c (.slice Av P.length cv) P W (hv.below hb)).mono fun _ _ r => r.yes gfP)
  by_cases g1 : ¬ Fits Q
  case pos =>
    have HFx : Hid (∀ W, Below w.heap.size w W → Calls Tryf.prog 14 #[.slice Aq Q.length cq] W fun e w' => e = .returned (.bool false) ∧ W = w') := Lib.hid (fun W hb => (fits1_c (.slice Aq Q.length cq) Q W (hq.below hb)).mono fun _ _ r => r.no g1)
    clear hbs hzs hT hF hv hq ok g1 gfP
    obtain ⟨Ah, Bh, Ch⟩ := h
    unfold hashV
    go_enter Tryf.func12, Tryf.ntmps12
    go_wp2_with fail
    refine (HFP.out _ (HB.out _)).mono ?_; rintro e w' ⟨rfl, rfl⟩
    go_wp2_with fail
    refine (HFx.out _ (HB.out _)).mono ?_; rintro e w' ⟨rfl, rfl⟩
    go_wp2_with fail
    go_ret
    exact ⟨rfl, HB.out _⟩
  have gfQ : Fits Q := Classical.not_not.1 g1
  clear g1
  have HFQ : Hid (∀ W, Below w.heap.size w W → Calls Tryf.prog 14 #[.slice Aq Q.length cq] W fun e w' => e = .returned (.bool true) ∧ W = w') := Lib.hid (fun W hb => (fits1_c (.slice Aq Q.length cq) Q W (hq.below hb)).mono fun _ _ r => r.yes gfQ)
  by_cases g2 : (100 : Int) < (P.length : Int)
  case pos =>
    clear hbs hzs hT hF hv hq ok gfP gfQ
    obtain ⟨Ah, Bh, Ch⟩ := h
    unfold hashV
    go_enter Tryf.func12, Tryf.ntmps12
    go_wp2_with fail
    refine (HFP.out _ (HB.out _)).mono ?_; rintro e w' ⟨rfl, rfl⟩
    go_wp2_with fail
    refine (HFQ.out _ (HB.out _)).mono ?_; rintro e w' ⟨rfl, rfl⟩
    go_wp2_with fail
    go_ret
    exact ⟨rfl, HB.out _⟩
  by_cases g3 : (100 : Int) < (Q.length : Int)
  case pos =>
    clear hbs hzs hT hF hv hq ok gfP gfQ
    obtain ⟨Ah, Bh, Ch⟩ := h
    unfold hashV
    go_enter Tryf.func12, Tryf.ntmps12
    go_wp2_with fail
    refine (HFP.out _ (HB.out _)).mono ?_; rintro e w' ⟨rfl, rfl⟩
    go_wp2_with fail
    refine (HFQ.out _ (HB.out _)).mono ?_; rintro e w' ⟨rfl, rfl⟩
    go_wp2_with fail
    go_ret
    exact ⟨rfl, HB.out _⟩
  by_cases g4 : P.length ≠ 0 ∧ ¬ IsLeaves P
  case pos =>
    have HSx : Hid (∀ W, Below w.heap.size w W → Calls Tryf.prog 15 #[.slice Av P.length cv] W fun e w' => e = .returned (.bool false) ∧ W = w') := Lib.hid (fun W hb => (leaves_c (.slice Av P.length cv) P W (hv.below hb) gfP.1).mono fun _ _ r => r.no g4.2)
    have zp1 : (0 : Int) < (P.length : Int) := by have := g4.1; omega
    clear hbs hzs hT hF hv hq ok gfP gfQ g4
    obtain ⟨Ah, Bh, Ch⟩ := h
    unfold hashV
    go_enter Tryf.func12, Tryf.ntmps12
    go_wp2_with fail
    refine (HFP.out _ (HB.out _)).mono ?_; rintro e w' ⟨rfl, rfl⟩
    go_wp2_with fail
    refine (HFQ.out _ (HB.out _)).mono ?_; rintro e w' ⟨rfl, rfl⟩
    go_wp2_with fail
    refine (HSx.out _ (HB.out _)).mono ?_; rintro e w' ⟨rfl, rfl⟩
    go_wp2_with fail
    go_ret
    exact ⟨rfl, HB.out _⟩
  have g4 : P.length = 0 ∨ IsLeaves P := by
    by_cases h0 : P.length = 0
    · exact .inl h0
    · exact .inr (Classical.not_not.1 fun hc => g4 ⟨h0, hc⟩)
  have h2 : ∀ x ∈ P, x.length = 2 := by
    rcases g4 with h0 | h1
    · rw [List.eq_nil_of_length_eq_zero h0]; intro x hx; cases hx
    · exact h1.1
  have HEP : P.length ≠ 0 → Hid (∀ W, Below w.heap.size w W → Calls Tryf.prog 15 #[.slice Av P.length cv] W fun e w' => e = .returned (.bool true) ∧ W = w') := fun h0 => Lib.hid (fun W hb => (leaves_c (.slice Av P.length cv) P W (hv.below hb) gfP.1).mono fun _ _ r => r.yes (g4.resolve_left h0))
  clear g4
  by_cases g5 : Q.length ≠ 0 ∧ ¬ IsLeaves Q
  case pos =>
    have HSx : Hid (∀ W, Below w.heap.size w W → Calls Tryf.prog 15 #[.slice Aq Q.length cq] W fun e w' => e = .returned (.bool false) ∧ W = w') := Lib.hid (fun W hb => (leaves_c (.slice Aq Q.length cq) Q W (hq.below hb) gfQ.1).mono fun _ _ r => r.no g5.2)
    have zq1 : (0 : Int) < (Q.length : Int) := by have := g5.1; omega
    by_cases p0 : P.length = 0
    case pos =>
      clear hbs hzs hT hF hv hq ok gfP gfQ g5 HEP h2 g2
      generalize hnn : P.length = n at *
      subst p0
      clear hnn
      obtain ⟨Ah, Bh, Ch⟩ := h
      unfold hashV
      go_enter Tryf.func12, Tryf.ntmps12
      go_wp2_with fail
      refine (HFP.out _ (HB.out _)).mono ?_; rintro e w' ⟨rfl, rfl⟩
      go_wp2_with fail
      refine (HFQ.out _ (HB.out _)).mono ?_; rintro e w' ⟨rfl, rfl⟩
      go_wp2_with fail
      refine (HSx.out _ (HB.out _)).mono ?_; rintro e w' ⟨rfl, rfl⟩
      go_wp2_with fail
      go_ret
      exact ⟨rfl, HB.out _⟩
    have HE1 := HEP p0
    have zp1 : (0 : Int) < (P.length : Int) := by omega
    clear hbs hzs hT hF hv hq ok gfP gfQ g5 HEP h2 p0
    obtain ⟨Ah, Bh, Ch⟩ := h
    unfold hashV
    go_enter Tryf.func12, Tryf.ntmps12
    go_wp2_with fail
    refine (HFP.out _ (HB.out _)).mono ?_; rintro e w' ⟨rfl, rfl⟩
    go_wp2_with fail
    refine (HFQ.out _ (HB.out _)).mono ?_; rintro e w' ⟨rfl, rfl⟩
    go_wp2_with fail
    refine (HE1.out _ (HB.out _)).mono ?_; rintro e w' ⟨rfl, rfl⟩
    go_wp2_with fail
    refine (HSx.out _ (HB.out _)).mono ?_; rintro e w' ⟨rfl, rfl⟩
    go_wp2_with fail
    go_ret
    exact ⟨rfl, HB.out _⟩
  have g5 : Q.length = 0 ∨ IsLeaves Q := by
    by_cases h0 : Q.length = 0
    · exact .inl h0
    · exact .inr (Classical.not_not.1 fun hc => g5 ⟨h0, hc⟩)
  have h3 : ∀ x ∈ Q, x.length = 2 := by
    rcases g5 with h0 | h1
    · rw [List.eq_nil_of_length_eq_zero h0]; intro x hx; cases hx
    · exact h1.1
  have HEQ : Q.length ≠ 0 → Hid (∀ W, Below w.heap.size w W → Calls Tryf.prog 15 #[.slice Aq Q.length cq] W fun e w' => e = .returned (.bool true) ∧ W = w') := fun h0 => Lib.hid (fun W hb => (leaves_c (.slice Aq Q.length cq) Q W (hq.below hb) gfQ.1).mono fun _ _ r => r.yes (g5.resolve_left h0))
  clear g5
  by_cases g6 : (1152921504606846976 : Int) < (b : Int)
  case pos =>
    clear hbs hzs hT hF hv hq ok gfP gfQ h2 h3
    by_cases p0 : P.length = 0
    case pos =>
      clear HEP g2
      generalize hnn : P.length = n at *
      subst p0
      clear hnn
      by_cases q0 : Q.length = 0
      case pos =>
        clear HEQ g3
        generalize hmm : Q.length = m at *
        subst q0
        clear hmm
        obtain ⟨Ah, Bh, Ch⟩ := h
        unfold hashV
        go_enter Tryf.func12, Tryf.ntmps12
        go_wp2_with fail
        refine (HFP.out _ (HB.out _)).mono ?_; rintro e w' ⟨rfl, rfl⟩
        go_wp2_with fail
        refine (HFQ.out _ (HB.out _)).mono ?_; rintro e w' ⟨rfl, rfl⟩
        go_wp2_with fail
        go_ret
        exact ⟨rfl, HB.out _⟩
      have HE2 := HEQ q0
      have zq1 : (0 : Int) < (Q.length : Int) := by omega
      clear HEQ q0
      obtain ⟨Ah, Bh, Ch⟩ := h
      unfold hashV
      go_enter Tryf.func12, Tryf.ntmps12
      go_wp2_with fail
      refine (HFP.out _ (HB.out _)).mono ?_; rintro e w' ⟨rfl, rfl⟩
      go_wp2_with fail
      refine (HFQ.out _ (HB.out _)).mono ?_; rintro e w' ⟨rfl, rfl⟩
      go_wp2_with fail
      refine (HE2.out _ (HB.out _)).mono ?_; rintro e w' ⟨rfl, rfl⟩
      go_wp2_with fail
      go_ret
      exact ⟨rfl, HB.out _⟩
    have HE1 := HEP p0
    have zp1 : (0 : Int) < (P.length : Int) := by omega
    clear HEP p0
    by_cases q0 : Q.length = 0
    case pos =>
      clear HEQ g3
      generalize hmm : Q.length = m at *
      subst q0
      clear hmm
      obtain ⟨Ah, Bh, Ch⟩ := h
      unfold hashV
      go_enter Tryf.func12, Tryf.ntmps12
      go_wp2_with fail
      refine (HFP.out _ (HB.out _)).mono ?_; rintro e w' ⟨rfl, rfl⟩
      go_wp2_with fail
      refine (HFQ.out _ (HB.out _)).mono ?_; rintro e w' ⟨rfl, rfl⟩
      go_wp2_with fail
      refine (HE1.out _ (HB.out _)).mono ?_; rintro e w' ⟨rfl, rfl⟩
      go_wp2_with fail
      go_ret
      exact ⟨rfl, HB.out _⟩
    have HE2 := HEQ q0
    have zq1 : (0 : Int) < (Q.length : Int) := by omega
    clear HEQ q0
    obtain ⟨Ah, Bh, Ch⟩ := h
    unfold hashV
    go_enter Tryf.func12, Tryf.ntmps12
    go_wp2_with fail
    refine (HFP.out _ (HB.out _)).mono ?_; rintro e w' ⟨rfl, rfl⟩
    go_wp2_with fail
    refine (HFQ.out _ (HB.out _)).mono ?_; rintro e w' ⟨rfl, rfl⟩
    go_wp2_with fail
    refine (HE1.out _ (HB.out _)).mono ?_; rintro e w' ⟨rfl, rfl⟩
    go_wp2_with fail
    refine (HE2.out _ (HB.out _)).mono ?_; rintro e w' ⟨rfl, rfl⟩
    go_wp2_with fail
    go_ret
    exact ⟨rfl, HB.out _⟩
  by_cases g7 : (1152921504606846976 : Int) < (z : Int)
  case pos =>
    clear hbs hzs hT hF hv hq ok gfP gfQ h2 h3
    by_cases p0 : P.length = 0
    case pos =>
      clear HEP g2
      generalize hnn : P.length = n at *
      subst p0
      clear hnn
      by_cases q0 : Q.length = 0
      case pos =>
        clear HEQ g3
        generalize hmm : Q.length = m at *
        subst q0
        clear hmm
        obtain ⟨Ah, Bh, Ch⟩ := h
        unfold hashV
        go_enter Tryf.func12, Tryf.ntmps12
        go_wp2_with fail
        refine (HFP.out _ (HB.out _)).mono ?_; rintro e w' ⟨rfl, rfl⟩
        go_wp2_with fail
        refine (HFQ.out _ (HB.out _)).mono ?_; rintro e w' ⟨rfl, rfl⟩
        go_wp2_with fail
        go_ret
        exact ⟨rfl, HB.out _⟩
      have HE2 := HEQ q0
      have zq1 : (0 : Int) < (Q.length : Int) := by omega
      clear HEQ q0
      obtain ⟨Ah, Bh, Ch⟩ := h
      unfold hashV
      go_enter Tryf.func12, Tryf.ntmps12
      go_wp2_with fail
      refine (HFP.out _ (HB.out _)).mono ?_; rintro e w' ⟨rfl, rfl⟩
      go_wp2_with fail
      refine (HFQ.out _ (HB.out _)).mono ?_; rintro e w' ⟨rfl, rfl⟩
      go_wp2_with fail
      refine (HE2.out _ (HB.out _)).mono ?_; rintro e w' ⟨rfl, rfl⟩
      go_wp2_with fail
      go_ret
      exact ⟨rfl, HB.out _⟩
    have HE1 := HEP p0
    have zp1 : (0 : Int) < (P.length : Int) := by omega
    clear HEP p0
    by_cases q0 : Q.length = 0
    case pos =>
      clear HEQ g3
      generalize hmm : Q.length = m at *
      subst q0
      clear hmm
      obtain ⟨Ah, Bh, Ch⟩ := h
      unfold hashV
      go_enter Tryf.func12, Tryf.ntmps12
      go_wp2_with fail
      refine (HFP.out _ (HB.out _)).mono ?_; rintro e w' ⟨rfl, rfl⟩
      go_wp2_with fail
      refine (HFQ.out _ (HB.out _)).mono ?_; rintro e w' ⟨rfl, rfl⟩
      go_wp2_with fail
      refine (HE1.out _ (HB.out _)).mono ?_; rintro e w' ⟨rfl, rfl⟩
      go_wp2_with fail
      go_ret
      exact ⟨rfl, HB.out _⟩
    have HE2 := HEQ q0
    have zq1 : (0 : Int) < (Q.length : Int) := by omega
    clear HEQ q0
    obtain ⟨Ah, Bh, Ch⟩ := h
    unfold hashV
    go_enter Tryf.func12, Tryf.ntmps12
    go_wp2_with fail
    refine (HFP.out _ (HB.out _)).mono ?_; rintro e w' ⟨rfl, rfl⟩
    go_wp2_with fail
    refine (HFQ.out _ (HB.out _)).mono ?_; rintro e w' ⟨rfl, rfl⟩
    go_wp2_with fail
    refine (HE1.out _ (HB.out _)).mono ?_; rintro e w' ⟨rfl, rfl⟩
    go_wp2_with fail
    refine (HE2.out _ (HB.out _)).mono ?_; rintro e w' ⟨rfl, rfl⟩
    go_wp2_with fail
    go_ret
    exact ⟨rfl, HB.out _⟩
  by_cases hzb : z = b + P.length
  · exact main_eq F h ok b z Av Aq cv cq P Q w hF hT hv hq HFP HFQ (by omega) (by omega) (by omega) (by omega) h2 h3 HEP HEQ hzb
  · exact main_ne F h ok b z Av Aq cv cq P Q w hF hT hv hq HFP HFQ (by omega) (by omega) (by omega) (by omega) h2 h3 HEP HEQ hzb
theorem reads (os : Os) {H : Type} (enc : TypeId × Value → H) : ∃ places, DataW.whole enc Tryf.prog ((laidWorld os).forCall (fun _ _ => 0) ⟨#[], #[.agg #[.int .u32 0, .int .u32 0, .int .u32 0], .int .u64 0, .slice none 0 0, .int .u64 0, .slice none 0 0], []⟩).memory Tryf.f12.params.toList Rows.fnExactAppendRangeSpec.vars false (#[.agg #[.int .u32 0, .int .u32 0, .int .u32 0], .int .u64 0, .slice none 0 0, .int .u64 0, .slice none 0 0] : Array Value).toList 8 = some ([.agg [.lit (.int .u32 0), .lit (.int .u32 0), .lit (.int .u32 0)], .lit (.int .u64 0), .nil, .lit (.int .u64 0), .nil], [], places) :=
  ⟨[], by kernel_rfl⟩
set_option maxRecDepth 100000 in
theorem contract (F : Stop.Interp) (H : Type) (enc : TypeId × Value → H) (W : World) (base : Nat) (args : Array Value) (ds gs : List (DataW H)) (before : List MemPlace) (hF : F.told.answers W.tape)
    (hval0 : ∀ (j : Nat) t v, Tryf.f12.params[j]? = some t → args[j]? = some v → Value.okWide Tryf.prog W .any base t v)
    (hW : DataW.Whole enc Tryf.prog Tryf.f12.params.toList Rows.fnExactAppendRangeSpec.vars false W args.toList ds gs before) (hL : laidMetH Tryf.prog Rows.fnExactAppendRangeRow.laid W) :
    Calls Tryf.prog 12 args W fun e W' => ∃ v, e = .returned v ∧ ((OpenSpec.ofChange Rows.fnExactAppendRangeSpec).at F.told).post enc Tryf.prog Tryf.f12 false true false false W args v W' := by
  have hval : ∀ (j : Nat) t v, Tryf.f12.params[j]? = some t → args[j]? = some v → Value.okWide Tryf.prog W .any base t v := hval0
  have hW' := hW
  obtain ⟨p, q, hA0, hV, rfl, hfz, hnd⟩ := hW
  have hA : DataW.TrodAll enc Tryf.prog W 0 (fun _ => true) true Tryf.f12.params.toList args.toList ds p := hA0
  rw [Tryf.params12] at hA hval
  obtain ⟨v0, vs0, d0, ds0, p0, q0, hargs, rfl, rfl, h0, r0⟩ := trodAll_cons hA
  obtain ⟨v1, vs1, d1, ds1, p1, q1, rfl, rfl, rfl, h1, r1⟩ := trodAll_cons r0
  obtain ⟨v2, vs2, d2, ds2, p2, q2, rfl, rfl, rfl, h2, r2⟩ := trodAll_cons r1
  obtain ⟨v3, vs3, d3, ds3, p3, q3, rfl, rfl, rfl, h3, r3⟩ := trodAll_cons r2
  obtain ⟨v4, vs4, d4, ds4, p4, q4, rfl, rfl, rfl, h4, r4⟩ := trodAll_cons r3
  obtain ⟨rfl, rfl, rfl⟩ := trodAll_nil r4
  obtain rfl : args = #[v0, v1, v2, v3, v4] := by cases args; simp_all
  obtain ⟨rfl, rfl⟩ := trodVars_none hV
  have k0 := h0
  have lt0 : ∀ x ∈ p0, x.block < W.heap.size := by obtain ⟨m, hm⟩ := k0; exact DataW.trod_lt m _ _ _ hm
  obtain ⟨hh0, rfl, w0⟩ := openHash (hval 0 24 v0 rfl rfl) h0
  have k1 := h1
  have lt1 : ∀ x ∈ p1, x.block < W.heap.size := by obtain ⟨m, hm⟩ := k1; exact DataW.trod_lt m _ _ _ hm
  obtain ⟨a1, rfl, hd1, hp1, w1⟩ := open_int Tryf.underlying27 (hval 1 27 v1 rfl rfl) h1
  have k2 := h2
  have lt2 : ∀ x ∈ p2, x.block < W.heap.size := by obtain ⟨m, hm⟩ := k2; exact DataW.trod_lt m _ _ _ hm
  obtain ⟨L2, w2⟩ := openHashes (hval 2 25 v2 rfl rfl) h2
  have k3 := h3
  have lt3 : ∀ x ∈ p3, x.block < W.heap.size := by obtain ⟨m, hm⟩ := k3; exact DataW.trod_lt m _ _ _ hm
  obtain ⟨a3, rfl, hd3, hp3, w3⟩ := open_int Tryf.underlying27 (hval 3 27 v3 rfl rfl) h3
  have k4 := h4
  have lt4 : ∀ x ∈ p4, x.block < W.heap.size := by obtain ⟨m, hm⟩ := k4; exact DataW.trod_lt m _ _ _ hm
  obtain ⟨L4, w4⟩ := openHashes (hval 4 25 v4 rfl rfl) h4
  refine (walk F.told W hF hh0 w0 a1 (bound_u64 w1) v2 L2 w2 a3 (bound_u64 w3) v4 L4 w4 (laidIs_of hL)).mono fun e W' ⟨he, bel⟩ => ?_
  subst he
  exact ⟨_, rfl, _, _, _, [], _, [], hW', trodAll_mk1 (shut_bool Tryf.underlying4 _), (trodAll_cons_mk (Below.trod laidOut (by kernel_rfl) (of_decide_eq_true (by kernel_rfl)) k0 bel lt0) (trodAll_cons_mk (Below.trod laidOut (by kernel_rfl) (of_decide_eq_true (by kernel_rfl)) k1 bel lt1) (trodAll_cons_mk (Below.trod laidOut (by kernel_rfl) (of_decide_eq_true (by kernel_rfl)) k2 bel lt2) (trodAll_cons_mk (Below.trod laidOut (by kernel_rfl) (of_decide_eq_true (by kernel_rfl)) k3 bel lt3) (trodAll_cons_mk (Below.trod laidOut (by kernel_rfl) (of_decide_eq_true (by kernel_rfl)) k4 bel lt4) trodAll_mk0))))), rfl, bel.frame _, fun h => by cases h⟩
set_option maxRecDepth 100000 in
theorem lifted (os : Os) (started : os.Started) (H : Type) (enc : TypeId × Value → H) :
    ReturnsInTold none {} Tryf.checked os 12 .any Input.okWide ((OpenSpec.ofChange Rows.fnExactAppendRangeSpec).preRow enc Tryf.prog Tryf.f12 Rows.fnExactAppendRangeRow.domain false Rows.fnExactAppendRangeRow.laid) (fun F => ((OpenSpec.ofChange Rows.fnExactAppendRangeSpec).at F).post enc Tryf.prog Tryf.f12 false true false false) (aloneAtReturn Tryf.prog) nothingAlways := by
  obtain ⟨places, hx⟩ := reads os enc
  refine returnsInTold_of_row (C := Tryf.checked) (s := OpenSpec.ofChange Rows.fnExactAppendRangeSpec) mayEnter own started (by kernel_rfl) Tryf.func12
    (OpenSpec.witness_stopped_at (enc := enc) (C := Tryf.checked) false (laidWorld os) #[.agg #[.int .u32 0, .int .u32 0, .int .u32 0], .int .u64 0, .slice none 0 0, .int .u64 0, .slice none 0 0] rfl (by kernel_rfl) (by kernel_rfl) (by kernel_rfl)
      (OpenSpec.preRow_of_cond 8 hx (by kernel_rfl) (fun k hk => by cases hk) (by kernel_rfl) (laid_met os #[.agg #[.int .u32 0, .int .u32 0, .int .u32 0], .int .u64 0, .slice none 0 0, .int .u64 0, .slice none 0 0]))) ?_
  intro F W base args ds gs before _ hF hval hW _ _ _ hL _
  exact contract F H enc W base args ds gs before hF hval hW hL
theorem proved : Rows.FnExactAppendRangeToldSaid :=
  Claim7.holds_of_told_tied_any_at .later 12 Tryf.f12 "fmt.errorf" [] [] _ _ _ _ _ (by kernel_rfl) rfl rfl rfl laidOut (by kernel_rfl) rfl ⟨rfl, rfl, rfl, rfl, rfl, rfl, rfl⟩ rfl rfl (by kernel_rfl) (by kernel_rfl) Tryf.func12 (by kernel_rfl)
    (of_decide_eq_true (by kernel_rfl)) (by unfold Func.isWrapper; first | (rw [if_pos (by decide +kernel)]; kernel_rfl) | (rw [if_neg (by decide +kernel)]; exact ⟨rfl, rfl⟩)) stopsAre.symm rfl stopKnobs.symm (by kernel_rfl)
    (by kernel_rfl) (by kernel_rfl) (by kernel_rfl) (by kernel_rfl) (by kernel_rfl) (by kernel_rfl) (by kernel_rfl) (by kernel_rfl) (by kernel_rfl) rfl (by kernel_rfl) rfl rfl
    rfl rfl
    rfl mainIs (by kernel_rfl) (by kernel_rfl) (by decide) (by kernel_rfl) fnExactAppendRange_row_tie
    (OpenClaim.moreEntering_of mayEnter (by kernel_rfl) (by kernel_rfl) (by kernel_rfl) (by kernel_rfl) (by kernel_rfl) (by kernel_rfl) (by kernel_rfl) liftsFinal.symm make)
    ⟨_, WideRow.started_initial, quiet _⟩
    (fun os started _ H enc _ => lifted os started H enc)
end Go.Proofs.YtpdmmmcelkinjaaFmt.fnExactAppendRange
