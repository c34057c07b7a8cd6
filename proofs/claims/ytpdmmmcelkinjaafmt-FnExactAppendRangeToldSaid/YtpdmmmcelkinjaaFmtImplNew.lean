/- compact.NewRange, impl.NewRange. -/
import Derived.Test.YtpdmmmcelkinjaaFmtImplApp
namespace Go.Proofs.YtpdmmmcelkinjaaFmt
open Go.ChangeShapes Go.WideShapes Go.ChangeAt Go.RowKit Go.Extern.Stop Go.Stop Go.Extern
set_option maxRecDepth 20000
theorem fmtGotN : Fmt2 ⟨#[105, 110, 118, 97, 108, 105, 100, 32, 104, 97, 115, 104, 101, 115, 58, 32, 103, 111, 116, 32, 37, 100, 32, 118, 97, 108, 117, 101, 115, 44, 32, 119, 97, 110, 116, 32, 37, 100]⟩ := ⟨by kernel_rfl, fun w => by kernel_rfl⟩
theorem newRange_ok (gf b e : Nat) (A : Option Addr) (n c : Nat) (w : World) (hb : b ≤ e) (he : e < 18446744073709551616) (hn : n = (Pl.pieces b e).length) :
    Calls Tryf.prog 28 #[.pointer (some ⟨gf, 0, none⟩), .int .u64 (b : Int), .int .u64 (e : Int), .slice A n c] w fun r w' => r = .returned (.tuple #[.pointer (some ⟨w.heap.size, 0, none⟩), .nilIface]) ∧ w.alloc (.cells #[.pointer (some ⟨gf, 0, none⟩), .int .u64 (b : Int), .int .u64 (e : Int), .slice A n c] 82) = w' := by
  have HS := Lib.hid (fun W => size_c b e hb he W)
  rw [← hn] at HS
  have t1 : ¬ (e : Int) < (b : Int) := by omega
  clear hn hb he
  go_enter Tryf.func28, Tryf.ntmps28
  go_wp2_with fail
  refine (HS.out _).mono ?_; rintro r w1 ⟨rfl, rfl⟩
  go_wp2_with fail
  go_ret2
  exact ⟨rfl, rfl⟩
theorem newRange_err (F : Interp) (gf b e : Nat) (A : Option Addr) (n c : Nat) (w : World) (hF : F.answers w.tape) (hb : b ≤ e) (he : e < 18446744073709551616) (hn : n ≠ (Pl.pieces b e).length) :
    Calls Tryf.prog 28 #[.pointer (some ⟨gf, 0, none⟩), .int .u64 (b : Int), .int .u64 (e : Int), .slice A n c] w fun r w' => (∃ gE, r = .returned (.tuple #[.pointer none, .iface 98 (.pointer (some ⟨gE, 0, none⟩))])) ∧ Below w.heap.size w w' := by
  have HS := Lib.hid (fun W => size_c b e hb he W)
  have t1 : ¬ (e : Int) < (b : Int) := by omega
  generalize (Pl.pieces b e).length = m at *
  have t2 : ¬ (n : Int) = (m : Int) := by omega
  have t3 : ((n : Int) != (m : Int)) = true := by simp; omega
  have HF := Lib.hid hF
  clear hn hb he hF
  go_enter Tryf.func28, Tryf.ntmps28
  go_wp2_with fail
  refine (HS.out _).mono ?_; rintro r w1 ⟨rfl, rfl⟩
  go_wp2_with fail
  have B1 : Below w.heap.size w (w.alloc (.cells #[.iface 3 (.int .i64 (n : Int)), .iface 3 (.int .i64 (m : Int))] 20)) := (Below.refl _ _).alloc (Nat.le_refl _) _
  refine (errorf_ii F _ fmtGotN (n : Int) (m : Int) w.heap.size _ (ans_below HF.out B1) (by simp) (by simp)).mono ?_
  rintro r w2 ⟨⟨gE, rfl⟩, hb⟩
  go_wp2_with fail
  go_ret2
  exact ⟨⟨_, rfl⟩, B1.trans (hb.mono B1.size)⟩
/-- What stands ready as impl.NewRange begins. -/
theorem new_start (w : World) (h : Pl.HF) : Below w.heap.size w (((w.alloc (.cells #[.int .u32 (h.A : Int), .int .u32 (h.B : Int), .int .u32 (h.C : Int)] 24)).alloc (.cells #[.int .u64 0, .int .u64 0, .slice none 0 0, .slice none 0 0, .bool false, .slice none 0 0, .slice none 0 0] 31)).alloc (.cells #[hashF h] 58)) ∧ Blk (((w.alloc (.cells #[.int .u32 (h.A : Int), .int .u32 (h.B : Int), .int .u32 (h.C : Int)] 24)).alloc (.cells #[.int .u64 0, .int .u64 0, .slice none 0 0, .slice none 0 0, .bool false, .slice none 0 0, .slice none 0 0] 31)).alloc (.cells #[hashF h] 58)) (w.heap.size + 1) 31 #[.int .u64 0, .int .u64 0, .slice none 0 0, .slice none 0 0, .bool false, .slice none 0 0, .slice none 0 0] ∧ Blk (((w.alloc (.cells #[.int .u32 (h.A : Int), .int .u32 (h.B : Int), .int .u32 (h.C : Int)] 24)).alloc (.cells #[.int .u64 0, .int .u64 0, .slice none 0 0, .slice none 0 0, .bool false, .slice none 0 0, .slice none 0 0] 31)).alloc (.cells #[hashF h] 58)) (w.heap.size + 1 + 1) 58 #[hashF h] ∧ (((w.alloc (.cells #[.int .u32 (h.A : Int), .int .u32 (h.B : Int), .int .u32 (h.C : Int)] 24)).alloc (.cells #[.int .u64 0, .int .u64 0, .slice none 0 0, .slice none 0 0, .bool false, .slice none 0 0, .slice none 0 0] 31)).alloc (.cells #[hashF h] 58)).heap.size = w.heap.size + 1 + 1 + 1 := by
  have s1 : (w.alloc (.cells #[.int .u32 (h.A : Int), .int .u32 (h.B : Int), .int .u32 (h.C : Int)] 24)).heap.size = w.heap.size + 1 := by simp
  have b1 := (Below.refl w.heap.size w).alloc (Nat.le_refl _) (.cells #[.int .u32 (h.A : Int), .int .u32 (h.B : Int), .int .u32 (h.C : Int)] 24)
  generalize w.alloc (.cells #[.int .u32 (h.A : Int), .int .u32 (h.B : Int), .int .u32 (h.C : Int)] 24) = w1 at *
  have k2 := Blk.new' w1 31 #[.int .u64 0, .int .u64 0, .slice none 0 0, .slice none 0 0, .bool false, .slice none 0 0, .slice none 0 0] s1.symm
  have s2 : (w1.alloc (.cells #[.int .u64 0, .int .u64 0, .slice none 0 0, .slice none 0 0, .bool false, .slice none 0 0, .slice none 0 0] 31)).heap.size = w.heap.size + 1 + 1 := by simp [s1]
  have b2 := b1.alloc b1.size (.cells #[.int .u64 0, .int .u64 0, .slice none 0 0, .slice none 0 0, .bool false, .slice none 0 0, .slice none 0 0] 31)
  generalize w1.alloc (.cells #[.int .u64 0, .int .u64 0, .slice none 0 0, .slice none 0 0, .bool false, .slice none 0 0, .slice none 0 0] 31) = w2 at *
  exact ⟨b2.alloc b2.size _, k2.alloc _, Blk.new' w2 58 #[hashF h] s2.symm, by simp [s2]⟩
/-- What impl.NewRange gives of as many hashes as the range has nodes. -/
def RetNewD (h : Pl.HF) (b e : Nat) (H : List (List Nat)) (w : World) (r : Ending) (w' : World) : Prop :=
  ∃ (A2 Ar A7 : Option Addr) (c2 nr cr c7 nE : Nat) (kb : Bool) (R : List Nat) (E : List SeenN), r = .returned (.tuple #[.agg #[.int .u64 (b : Int), .int .u64 (e : Int), .slice A2 H.length c2, .slice Ar nr cr, .bool kb, .slice none 0 0, .slice A7 nE c7], .bool true]) ∧
    Hid (kb = decide (b = 0) ∧ R = Pl.rootAt h b H ∧ E = Pl.edgeAt h b e H ∧ nr = R.length ∧ nE = E.length) ∧
    Hid (BuiltT w' w.heap.size (.slice A2 H.length c2) H ∧ BytesT w' (.slice Ar nr cr) R ∧ SeenB w' w.heap.size (.slice A7 nE c7) E) ∧ Below w.heap.size w w'
set_option maxHeartbeats 4000000 in
theorem new_c (F : Interp) (h : Pl.HF) (ok : h.ok) (b e : Nat) (v : Value) (H : List (List Nat)) (w : World) (hF : F.answers w.tape) (hv : HashesR w v H) (h2 : ∀ x ∈ H, x.length = 2) (hb : b ≤ e) (he : e < 9223372036854775808) (hn : H.length = (Pl.pieces b e).length) (hT : Tab w) :
    Calls Tryf.prog 16 #[hashV h, .int .u64 (b : Int), .int .u64 (e : Int), v] w (RetNewD h b e H w) := by
  have hnl := Pl.pieces_len b e (by omega)
  obtain ⟨n1, n2, n3, n4⟩ := new_start w h
  have HCO := Lib.hid (copied_t v H (((w.alloc (.cells #[.int .u32 (h.A : Int), .int .u32 (h.B : Int), .int .u32 (h.C : Int)] 24)).alloc (.cells #[.int .u64 0, .int .u64 0, .slice none 0 0, .slice none 0 0, .bool false, .slice none 0 0, .slice none 0 0] 31)).alloc (.cells #[hashF h] 58)) (hv.below n1) ⟨by omega, fun x hx => by have := h2 x hx; omega⟩ h2)
  have HST := Lib.hid (show _ ∧ _ ∧ _ ∧ _ from ⟨n1, n2, n3, n4⟩)
  have HNR := Lib.hid (fun A n c W (hnn : n = H.length) => newRange_ok (w.heap.size + 1 + 1) b e A n c W hb (by omega) (by omega))
  have HRO := Lib.hid (fun g hv base W (hF : F.answers W.tape) (hT : Tab W) (hR : RangeB W g (w.heap.size + 1 + 1) h b e hv) (hB : BuiltT W base hv H) => rangeOf_c F h ok g (w.heap.size + 1 + 1) base b e hv H none 0 0 W he hF hT hR hB hn)
  have HF := Lib.hid hF
  have HT := Lib.hid hT
  obtain ⟨Av, cv, rfl, hx1, hx2, hx3⟩ := id hv
  clear hx1 hx2 hx3 hv h2 n1 n2 n3 n4 hF hT ok hnl hn hb he
  obtain ⟨Ah, Bh, Ch⟩ := h
  unfold hashV
  simp only [] at HCO HST ⊢
  unfold hashF hashV at HCO
  simp only [] at HCO
  go_enter Tryf.func16, Tryf.ntmps16
  go_wp2_with fail
  refine HCO.out.mono ?_; rintro r w3 ⟨hv, rfl, hB, hb3⟩
  obtain ⟨A1, c1, rfl, _⟩ := hB.form
  obtain ⟨n1, n2, n3, n4⟩ := HST.out
  have B3 := n1.trans (hb3.mono n1.size)
  have G3 := n2.below' hb3
  have F3 := n3.below' hb3
  have HBB := Lib.hid hB
  have HB3 := Lib.hid B3
  have HG3 := Lib.hid G3
  have HF3 := Lib.hid F3
  clear hB B3 G3 F3 n1 n2 n3 n4 hb3 HCO
  go_wp2_with fail
  refine (HNR.out A1 H.length c1 _ rfl).mono ?_; rintro r w4 ⟨rfl, rfl⟩
  have BN : Below w3.heap.size w3 (w3.alloc (.cells #[.pointer (some ⟨w.heap.size + 1 + 1, 0, none⟩), .int .u64 (b : Int), .int .u64 (e : Int), .slice A1 H.length c1] 82)) := (Below.refl _ _).alloc (Nat.le_refl _) _
  have HRN := Lib.hid (HRO.out w3.heap.size (.slice A1 H.length c1) _ _ (ans_below HF.out (HB3.out.trans (BN.mono HB3.out.size))) (HT.out.below (HB3.out.trans (BN.mono HB3.out.size))) ⟨Blk.new _ _ _, HF3.out.below' BN⟩ (HBB.out.below BN))
  have HBN := Lib.hid BN
  clear BN HRO HNR
  go_wp2_with fail
  refine HRN.out.mono ?_; rintro r w5 ⟨v2, rv, ev, rfl, k1, k2, k3, k4⟩
  obtain ⟨A2, c2, rfl, _⟩ := k1.form
  obtain ⟨Ar, cr, rfl, hz1, hz2, hz3⟩ := id k2.1
  clear hz1 hz2 hz3
  obtain ⟨A7, c7, rfl⟩ := k3.form
  have HG4 := Lib.hid ((HG3.out.below' HBN.out).below' k4)
  obtain ⟨y0, y1, y2, y3, y4, y5, y6, f0, f1, f2, f3, f4, f5, f6⟩ := HG4.out.seven
  have K1 := Lib.hid k1
  have K2 := Lib.hid k2
  have K3 := Lib.hid k3
  have K4 := Lib.hid k4
  clear k1 k2 k3 k4 HRN
  generalize hh : (⟨Ah, Bh, Ch⟩ : Pl.HF) = h at *
  generalize hkb : decide (b = 0) = kb at *
  generalize hE : Pl.edgeAt h b e H = E at *
  generalize hR : Pl.rootAt h b H = R at *
  generalize hnE : E.length = nE at *
  generalize hnR : R.length = nR at *
  have HQ : Hid (kb = decide (b = 0) ∧ R = Pl.rootAt h b H ∧ E = Pl.edgeAt h b e H ∧ nR = R.length ∧ nE = E.length) := Lib.hid ⟨hkb.symm, hR.symm, hE.symm, hnR.symm, hnE.symm⟩
  clear hkb hE hR hnE hnR
  go_wp2_with fail
  obtain ⟨q1, q2, q3⟩ := set7 HG4.out (.int .u64 (b : Int)) (.int .u64 (e : Int)) (.slice A2 H.length c2) (.slice Ar nR cr) (.bool kb) (.slice none 0 0) (.slice A7 nE c7)
  refine bodyPost_ret (v := .tuple #[.agg #[.int .u64 (b : Int), .int .u64 (e : Int), .slice A2 H.length c2, .slice Ar nR cr, .bool kb, .slice none 0 0, .slice A7 nE c7], .bool true]) (results_row_tmp rfl _ _ (w.heap.size + 1) 31 _ (0, 0) _ _ rfl rfl q1 Tryf.underlying31 rfl (by kernel_rfl)) rfl ?_
  have B4 := HB3.out.trans (HBN.out.mono HB3.out.size)
  have B5 := B4.trans (K4.out.mono B4.size)
  exact ⟨_, _, _, _, _, _, _, _, _, _, _, rfl, HQ, Lib.hid ⟨(K1.out.keep q2 (by decide) (by decide)).mono B4.size, K2.out.keep q2 (by decide), (K3.out.keep q2 (by decide) (by decide)).mono B4.size⟩, B5.trans (q3.mono (by omega))⟩
set_option maxHeartbeats 4000000 in
theorem new_err (F : Interp) (h : Pl.HF) (b e : Nat) (v : Value) (H : List (List Nat)) (w : World) (hF : F.answers w.tape) (hv : HashesR w v H) (h2 : ∀ x ∈ H, x.length = 2) (hb : b ≤ e) (he : e < 9223372036854775808) (hn : H.length ≠ (Pl.pieces b e).length) (hnl : H.length ≤ 1000) :
    Calls Tryf.prog 16 #[hashV h, .int .u64 (b : Int), .int .u64 (e : Int), v] w fun r w' => r = .returned (.tuple #[.agg #[.int .u64 0, .int .u64 0, .slice none 0 0, .slice none 0 0, .bool false, .slice none 0 0, .slice none 0 0], .bool false]) ∧ Below w.heap.size w w' := by
  obtain ⟨n1, n2, n3, n4⟩ := new_start w h
  have HCO := Lib.hid (copied_t v H (((w.alloc (.cells #[.int .u32 (h.A : Int), .int .u32 (h.B : Int), .int .u32 (h.C : Int)] 24)).alloc (.cells #[.int .u64 0, .int .u64 0, .slice none 0 0, .slice none 0 0, .bool false, .slice none 0 0, .slice none 0 0] 31)).alloc (.cells #[hashF h] 58)) (hv.below n1) ⟨by omega, fun x hx => by have := h2 x hx; omega⟩ h2)
  have HST := Lib.hid (show _ ∧ _ ∧ _ ∧ _ from ⟨n1, n2, n3, n4⟩)
  have HNR := Lib.hid (fun A n c W (hF : F.answers W.tape) (hnn : n = H.length) => newRange_err F (w.heap.size + 1 + 1) b e A n c W hF hb (by omega) (by rw [hnn]; exact hn))
  have HF := Lib.hid hF
  obtain ⟨Av, cv, rfl, hx1, hx2, hx3⟩ := id hv
  clear hx1 hx2 hx3 hv h2 n1 n2 n3 n4 hF hnl hn hb he
  obtain ⟨Ah, Bh, Ch⟩ := h
  unfold hashV
  simp only [] at HCO HST ⊢
  unfold hashF hashV at HCO
  simp only [] at HCO
  go_enter Tryf.func16, Tryf.ntmps16
  go_wp2_with fail
  refine HCO.out.mono ?_; rintro r w3 ⟨hv, rfl, hB, hb3⟩
  obtain ⟨A1, c1, rfl, _⟩ := hB.form
  obtain ⟨n1, n2, n3, n4⟩ := HST.out
  have B3 := n1.trans (hb3.mono n1.size)
  have G3 := n2.below' hb3
  have F3 := n3.below' hb3
  have HBB := Lib.hid hB
  have HB3 := Lib.hid B3
  have HG3 := Lib.hid G3
  have HF3 := Lib.hid F3
  clear hB B3 G3 F3 n1 n2 n3 n4 hb3 HCO
  go_wp2_with fail
  refine (HNR.out A1 H.length c1 _ (ans_below HF.out HB3.out) rfl).mono ?_; rintro r w4 ⟨⟨gE, rfl⟩, hb4⟩
  have HG4 := Lib.hid (HG3.out.below' hb4)
  obtain ⟨y0, y1, y2, y3, y4, y5, y6, f0, f1, f2, f3, f4, f5, f6⟩ := HG4.out.seven
  have HB4 := Lib.hid (HB3.out.trans (hb4.mono HB3.out.size))
  clear hb4
  go_wp2_with fail
  obtain ⟨q1, q2, q3⟩ := set7 HG4.out (.int .u64 0) (.int .u64 0) (.slice none 0 0) (.slice none 0 0) (.bool false) (.slice none 0 0) (.slice none 0 0)
  refine bodyPost_ret (v := .tuple #[.agg #[.int .u64 0, .int .u64 0, .slice none 0 0, .slice none 0 0, .bool false, .slice none 0 0, .slice none 0 0], .bool false]) (results_row_tmp rfl _ _ (w.heap.size + 1) 31 _ (0, 0) _ _ rfl rfl q1 Tryf.underlying31 rfl (by kernel_rfl)) rfl ?_
  exact ⟨rfl, HB4.out.trans (q3.mono (by omega))⟩
end Go.Proofs.YtpdmmmcelkinjaaFmt
