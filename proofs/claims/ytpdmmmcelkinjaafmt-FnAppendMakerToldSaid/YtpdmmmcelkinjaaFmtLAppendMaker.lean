/- A range that grew is the range that is made of its hashes. -/
import Derived.Test.YtpdmmmcelkinjaaFmtImplApp
import Derived.Test.YtpdmmmcelkinjaaFmtWorks
import Derived.Test.YtpdmmmcelkinjaaFmtImplNew
import Derived.Test.YtpdmmmcelkinjaaFmtOpenH
namespace Go.Proofs.YtpdmmmcelkinjaaFmt.fnAppendMaker
open Go.ChangeShapes Go.WideShapes Go.ChangeAt Go.RowKit
set_option maxRecDepth 100000
set_option maxHeartbeats 8000000 in
theorem main (F : Stop.Interp) (h : Pl.HF) (ok : h.ok) (b : Nat) (Av : Option Addr) (cv : Nat) (P : List (List Nat)) (w : World) (hF : F.answers w.tape) (hT : Tab w) (hv : HashesR w (.slice Av P.length cv) P) (gfP : Fits P) (HFP : Hid (∀ W, Below w.heap.size w W → Calls Tryf.prog 14 #[.slice Av P.length cv] W fun e w' => e = .returned (.bool true) ∧ W = w')) (hb : b ≤ 1152921504606846976) (hn : P.length ≤ 200) (h2 : ∀ x ∈ P, x.length = 2) (HEP : P.length ≠ 0 → Hid (∀ W, Below w.heap.size w W → Calls Tryf.prog 15 #[.slice Av P.length cv] W fun e w' => e = .returned (.bool true) ∧ W = w')) :
    Calls Tryf.prog 13 #[hashV h, .int .u64 (b : Int), .slice Av P.length cv] w fun e w' => e = .returned (.bool true) ∧ Below w.heap.size w w' := by
  have HB := Lib.hid (fun C => (Below.refl w.heap.size w).alloc (Nat.le_refl _) (.cells C 24))
  have HAP := Lib.hid (fun W (hW : Below w.heap.size w W) => append_d F h ok b (.slice Av P.length cv) P W (ans_below hF hW) (hv.below hW) h2 (by omega) (by omega) (hT.below hW))
  have HV := Lib.hid hv
  have HT := Lib.hid hT
  have HF := Lib.hid hF
  have HOK := Lib.hid ok
  have H22 := Lib.hid h2
  have HGF := Lib.hid gfP
  have HN := Lib.hid hn
  have HBB := Lib.hid hb
  have hb1 : (b : Int) ≤ 1152921504606846976 := by omega
  have hn1 : (P.length : Int) ≤ 200 := by omega
  clear hv hT hF ok h2 gfP hb
  by_cases h0 : P.length = 0
  · have hz : (P.length : Int) = 0 := by omega
    have hz1 : ¬ (0 : Int) < (P.length : Int) := by omega
    clear HEP h0 hn
    generalize hnn : P.length = n at *
    have HNN := Lib.hid hnn
    clear hnn
    obtain rfl : n = 0 := by omega
    clear hz hz1 hn1
    obtain ⟨Ah, Bh, Ch⟩ := h
    unfold hashV
    go_enter Tryf.func13, Tryf.ntmps13
    go_wp2_with fail
    refine (HFP.out _ (HB.out _)).mono ?_; rintro e w' ⟨rfl, rfl⟩
    go_wp2_with fail
    refine (HAP.out _ (HB.out _)).mono ?_; rintro r w3 ⟨A2, Ar, A6, A7, c2, nr, cr, c6, c7, nH, nG, nE, e, kb, H, R, G, E, rfl, HEQ, HK, hb3⟩
    have HKH : Hid (Blk w3 w.heap.size 24 #[.int .u32 (Ah : Int), .int .u32 (Bh : Int), .int .u32 (Ch : Int)]) := Lib.hid ((Blk.new w _ _).below' hb3)
    have HB3 := Lib.hid ((HB.out _).trans (hb3.mono (HB.out _).size))
    clear hb3
    have HL2 : Hid (∀ x ∈ H, x.length = 2) := Lib.hid HK.out.1.two
    have HNH : Hid (H.length = (Pl.pieces b e).length) := Lib.hid (by rw [HEQ.out.2.2.1, Pl.ph_length, HEQ.out.1])
    have HEB : Hid (b ≤ e ∧ e < 9223372036854775808) := Lib.hid (by
      have h1 := HEQ.out.1
      have h2 := HBB.out
      have h3 := HN.out
      omega)
    have HHL : Hid (H.length ≤ 1000) := Lib.hid (by
      rw [HNH.out]
      have := Pl.pieces_len b e (by have := HEB.out; omega)
      omega)
    have HSM := Lib.hid (fun W (v1 v2 : Value) (h1 : HashesR W v1 H) (h2 : HashesR W v2 H) => (sameHashes_c v1 v2 H H W h1 h2 (Nat.le_trans HHL.out (by decide))).mono fun _ _ r => r.yes rfl)
    have HNW := Lib.hid (fun W (hW : Below w3.heap.size w3 W) => new_c F ⟨Ah, Bh, Ch⟩ HOK.out b e (.slice A2 nH c2) H W (ans_below HF.out (HB3.out.trans (hW.mono HB3.out.size))) (HK.out.1.hashes.below hW) HL2.out HEB.out.1 HEB.out.2 HNH.out (HT.out.below (HB3.out.trans (hW.mono HB3.out.size))))
    unfold hashV at HNW
    simp only [] at HNW
    have BA : Below w3.heap.size w3 (w3.alloc (.cells #[.int .u64 (b : Int), .int .u64 (e : Int), .slice A2 nH c2, .slice Ar nr cr, .bool kb, .slice A6 nG c6, .slice A7 nE c7] 31)) := (Below.refl _ _).alloc (Nat.le_refl _) _
    have hKH := HKH.out.below' BA
    have y0 := hKH.cell 0
    have y1 := hKH.cell 1
    have y2 := hKH.cell 2
    have HBA := Lib.hid BA
    clear hKH BA
    go_wp2_with fail
    refine (HNW.out _ HBA.out).mono ?_; rintro r w4 ⟨B2, Br, B7, d2, mr, dr, d7, mE, kb2, R2, E2, rfl, HQ, HK2, hb4⟩
    clear y0 y1 y2
    obtain rfl : kb2 = kb := by rw [HQ.out.1, HEQ.out.2.1]
    obtain rfl : R2 = R := by rw [HQ.out.2.1, HEQ.out.2.2.2.1]
    obtain rfl : mr = nr := by rw [HQ.out.2.2.2.1, HEQ.out.2.2.2.2.2.2.2.1]
    generalize hHn : H.length = m at *
    have HHn := Lib.hid hHn
    clear hHn
    have BA4 : Below w4.heap.size w4 (w4.alloc (.cells #[.int .u64 (b : Int), .int .u64 (e : Int), .slice B2 m d2, .slice Br mr dr, .bool kb2, .slice none 0 0, .slice B7 mE d7] 31)) := (Below.refl _ _).alloc (Nat.le_refl _) _
    have K1 := ((Blk.new w3 31 #[.int .u64 (b : Int), .int .u64 (e : Int), .slice A2 nH c2, .slice Ar mr cr, .bool kb2, .slice A6 nG c6, .slice A7 nE c7]).below' hb4).below' BA4
    have K2 := Blk.new w4 31 #[.int .u64 (b : Int), .int .u64 (e : Int), .slice B2 m d2, .slice Br mr dr, .bool kb2, .slice none 0 0, .slice B7 mE d7]
    obtain ⟨x0, x1, x2, x3, x4, _⟩ := K1.seven
    have HV1 := Lib.hid (((HK.out.1.hashes.below HBA.out).below hb4).below BA4)
    have HV2 := Lib.hid (HK2.out.1.hashes.below BA4)
    have HR1 := Lib.hid (((HK.out.2.1.1.below HBA.out).below hb4).below BA4)
    have HR2 := Lib.hid (HK2.out.2.1.1.below BA4)
    have HK1 := Lib.hid K1
    have HKK2 := Lib.hid K2
    have HB4 := Lib.hid ((HB3.out.trans (HBA.out.mono HB3.out.size)).trans (hb4.mono (Nat.le_trans HB3.out.size HBA.out.size)))
    have HB5 := Lib.hid (HB4.out.trans (BA4.mono HB4.out.size))
    clear K1 K2 BA4 hb4
    go_wp2_with fail
    refine (HSM.out _ _ _ HV1.out HV2.out).mono ?_; rintro r w5 ⟨rfl, hb5⟩
    obtain ⟨y0, y1, y2, y3, y4, _⟩ := (HK1.out.below' hb5).seven
    obtain ⟨z0, z1, z2, z3, z4, _⟩ := (HKK2.out.below' hb5).seven
    have s1 := (HR1.out.below hb5).str
    have s2 := (HR2.out.below hb5).str
    have HB6 := Lib.hid (HB5.out.trans (hb5.mono HB5.out.size))
    clear hb5
    go_wp2_with fail
    refine (works_c _).mono ?_; rintro r w6 ⟨rfl, hb6⟩
    have HB7 := Lib.hid (HB6.out.trans (hb6.mono HB6.out.size))
    clear hb6
    go_wp2_with fail
    go_ret
    exact ⟨rfl, HB7.out⟩
  · have HE1 := HEP h0
    have hz : ¬ (P.length : Int) = 0 := by omega
    have hz1 : (0 : Int) < (P.length : Int) := by omega
    have hz2 : ((P.length : Int) == 0) = false := beq_eq_false_iff_ne.2 hz
    clear HEP h0 hn
    generalize hnn : P.length = n at *
    have HNN := Lib.hid hnn
    clear hnn
    obtain ⟨Ah, Bh, Ch⟩ := h
    unfold hashV
    go_enter Tryf.func13, Tryf.ntmps13
    go_wp2_with fail
    refine (HFP.out _ (HB.out _)).mono ?_; rintro e w' ⟨rfl, rfl⟩
    go_wp2_with fail
    refine (HE1.out _ (HB.out _)).mono ?_; rintro e w' ⟨rfl, rfl⟩
    go_wp2_with fail
    refine (HAP.out _ (HB.out _)).mono ?_; rintro r w3 ⟨A2, Ar, A6, A7, c2, nr, cr, c6, c7, nH, nG, nE, e, kb, H, R, G, E, rfl, HEQ, HK, hb3⟩
    have HKH : Hid (Blk w3 w.heap.size 24 #[.int .u32 (Ah : Int), .int .u32 (Bh : Int), .int .u32 (Ch : Int)]) := Lib.hid ((Blk.new w _ _).below' hb3)
    have HB3 := Lib.hid ((HB.out _).trans (hb3.mono (HB.out _).size))
    clear hb3
    have HL2 : Hid (∀ x ∈ H, x.length = 2) := Lib.hid HK.out.1.two
    have HNH : Hid (H.length = (Pl.pieces b e).length) := Lib.hid (by rw [HEQ.out.2.2.1, Pl.ph_length, HEQ.out.1])
    have HEB : Hid (b ≤ e ∧ e < 9223372036854775808) := Lib.hid (by
      have h1 := HEQ.out.1
      have h2 := HBB.out
      have h3 := HN.out
      omega)
    have HHL : Hid (H.length ≤ 1000) := Lib.hid (by
      rw [HNH.out]
      have := Pl.pieces_len b e (by have := HEB.out; omega)
      omega)
    have HSM := Lib.hid (fun W (v1 v2 : Value) (h1 : HashesR W v1 H) (h2 : HashesR W v2 H) => (sameHashes_c v1 v2 H H W h1 h2 (Nat.le_trans HHL.out (by decide))).mono fun _ _ r => r.yes rfl)
    have HNW := Lib.hid (fun W (hW : Below w3.heap.size w3 W) => new_c F ⟨Ah, Bh, Ch⟩ HOK.out b e (.slice A2 nH c2) H W (ans_below HF.out (HB3.out.trans (hW.mono HB3.out.size))) (HK.out.1.hashes.below hW) HL2.out HEB.out.1 HEB.out.2 HNH.out (HT.out.below (HB3.out.trans (hW.mono HB3.out.size))))
    unfold hashV at HNW
    simp only [] at HNW
    have BA : Below w3.heap.size w3 (w3.alloc (.cells #[.int .u64 (b : Int), .int .u64 (e : Int), .slice A2 nH c2, .slice Ar nr cr, .bool kb, .slice A6 nG c6, .slice A7 nE c7] 31)) := (Below.refl _ _).alloc (Nat.le_refl _) _
    have hKH := HKH.out.below' BA
    have y0 := hKH.cell 0
    have y1 := hKH.cell 1
    have y2 := hKH.cell 2
    have HBA := Lib.hid BA
    clear hKH BA
    go_wp2_with fail
    refine (HNW.out _ HBA.out).mono ?_; rintro r w4 ⟨B2, Br, B7, d2, mr, dr, d7, mE, kb2, R2, E2, rfl, HQ, HK2, hb4⟩
    clear y0 y1 y2
    obtain rfl : kb2 = kb := by rw [HQ.out.1, HEQ.out.2.1]
    obtain rfl : R2 = R := by rw [HQ.out.2.1, HEQ.out.2.2.2.1]
    obtain rfl : mr = nr := by rw [HQ.out.2.2.2.1, HEQ.out.2.2.2.2.2.2.2.1]
    generalize hHn : H.length = m at *
    have HHn := Lib.hid hHn
    clear hHn
    have BA4 : Below w4.heap.size w4 (w4.alloc (.cells #[.int .u64 (b : Int), .int .u64 (e : Int), .slice B2 m d2, .slice Br mr dr, .bool kb2, .slice none 0 0, .slice B7 mE d7] 31)) := (Below.refl _ _).alloc (Nat.le_refl _) _
    have K1 := ((Blk.new w3 31 #[.int .u64 (b : Int), .int .u64 (e : Int), .slice A2 nH c2, .slice Ar mr cr, .bool kb2, .slice A6 nG c6, .slice A7 nE c7]).below' hb4).below' BA4
    have K2 := Blk.new w4 31 #[.int .u64 (b : Int), .int .u64 (e : Int), .slice B2 m d2, .slice Br mr dr, .bool kb2, .slice none 0 0, .slice B7 mE d7]
    obtain ⟨x0, x1, x2, x3, x4, _⟩ := K1.seven
    have HV1 := Lib.hid (((HK.out.1.hashes.below HBA.out).below hb4).below BA4)
    have HV2 := Lib.hid (HK2.out.1.hashes.below BA4)
    have HR1 := Lib.hid (((HK.out.2.1.1.below HBA.out).below hb4).below BA4)
    have HR2 := Lib.hid (HK2.out.2.1.1.below BA4)
    have HK1 := Lib.hid K1
    have HKK2 := Lib.hid K2
    have HB4 := Lib.hid ((HB3.out.trans (HBA.out.mono HB3.out.size)).trans (hb4.mono (Nat.le_trans HB3.out.size HBA.out.size)))
    have HB5 := Lib.hid (HB4.out.trans (BA4.mono HB4.out.size))
    clear K1 K2 BA4 hb4
    go_wp2_with fail
    refine (HSM.out _ _ _ HV1.out HV2.out).mono ?_; rintro r w5 ⟨rfl, hb5⟩
    obtain ⟨y0, y1, y2, y3, y4, _⟩ := (HK1.out.below' hb5).seven
    obtain ⟨z0, z1, z2, z3, z4, _⟩ := (HKK2.out.below' hb5).seven
    have s1 := (HR1.out.below hb5).str
    have s2 := (HR2.out.below hb5).str
    have HB6 := Lib.hid (HB5.out.trans (hb5.mono HB5.out.size))
    clear hb5
    go_wp2_with fail
    refine (works_c _).mono ?_; rintro r w6 ⟨rfl, hb6⟩
    have HB7 := Lib.hid (HB6.out.trans (hb6.mono HB6.out.size))
    clear hb6
    go_wp2_with fail
    go_ret
    exact ⟨rfl, HB7.out⟩
set_option maxHeartbeats 4000000 in
theorem walk (F : Stop.Interp) (w : World) (hF : F.answers w.tape) (h : Pl.HF) (ok : h.ok) (a1 : Int) (w1 : 0 ≤ a1 ∧ a1 < 18446744073709551616) (v : Value) (P : List (List Nat)) (hv : HashesR w v P) (hT : LaidIs w) :
    Calls Tryf.prog 13 #[hashV h, .int .u64 a1, v] w fun e w' => e = .returned (.bool true) ∧ Below w.heap.size w w' := by
  obtain ⟨b, rfl⟩ := Int.eq_ofNat_of_zero_le w1.1
  have hbs : b < 18446744073709551616 := by omega
  clear w1
  have HB := Lib.hid (fun C => (Below.refl w.heap.size w).alloc (Nat.le_refl _) (.cells C 24))
  obtain ⟨Av, cv, ev, h9v⟩ := id hv
  clear h9v
  subst ev
  by_cases g0 : ¬ Fits P
  case pos =>
    have HFx : Hid (∀ W, Below w.heap.size w W → Calls Tryf.prog 14 #[.slice Av P.length cv] W fun e w' => e = .returned (.bool false) ∧ W = w') := Lib.hid (fun W hb => (fits1_c (.slice Av P.length cv) P W (hv.below hb)).mono fun _ _ r => r.no g0)
    obtain ⟨Ah, Bh, Ch⟩ := h
    unfold hashV
    clear hbs hT hF hv g0 ok
    go_enter Tryf.func13, Tryf.ntmps13
    go_wp2_with fail
    refine (HFx.out _ (HB.out _)).mono ?_; rintro e w' ⟨rfl, rfl⟩
    go_wp2_with fail
    go_ret
    exact ⟨rfl, HB.out _⟩
  have gfP : Fits P := Classical.not_not.1 g0
  clear g0
  have HFP : Hid (∀ W, Below w.heap.size w W → Calls Tryf.prog 14 #[.slice Av P.length cv] W fun e w' => e = .returned (.bool true) ∧ W = w') := Lib.hid (fun W hb => (fits1_c (.slice Av P.length cv) P W (hv.below hb)).mono fun _ _ r => r.yes gfP)
  by_cases g1 : (200 : Int) < (P.length : Int)
  case pos =>
    obtain ⟨Ah, Bh, Ch⟩ := h
    unfold hashV
    clear hbs hT hF hv gfP ok
    go_enter Tryf.func13, Tryf.ntmps13
    go_wp2_with fail
    refine (HFP.out _ (HB.out _)).mono ?_; rintro e w' ⟨rfl, rfl⟩
    go_wp2_with fail
    go_ret
    exact ⟨rfl, HB.out _⟩
  by_cases g2 : P.length ≠ 0 ∧ ¬ IsLeaves P
  case pos =>
    have HSx : Hid (∀ W, Below w.heap.size w W → Calls Tryf.prog 15 #[.slice Av P.length cv] W fun e w' => e = .returned (.bool false) ∧ W = w') := Lib.hid (fun W hb => (leaves_c (.slice Av P.length cv) P W (hv.below hb) gfP.1).mono fun _ _ r => r.no g2.2)
    have hz1 : (0 : Int) < (P.length : Int) := by have := g2.1; omega
    obtain ⟨Ah, Bh, Ch⟩ := h
    unfold hashV
    clear hbs hT hF hv gfP g2 ok
    go_enter Tryf.func13, Tryf.ntmps13
    go_wp2_with fail
    refine (HFP.out _ (HB.out _)).mono ?_; rintro e w' ⟨rfl, rfl⟩
    go_wp2_with fail
    refine (HSx.out _ (HB.out _)).mono ?_; rintro e w' ⟨rfl, rfl⟩
    go_wp2_with fail
    go_ret
    exact ⟨rfl, HB.out _⟩
  have g3 : P.length = 0 ∨ IsLeaves P := by
    by_cases h0 : P.length = 0
    · exact .inl h0
    · exact .inr (Classical.not_not.1 fun hc => g2 ⟨h0, hc⟩)
  clear g2
  have h2 : ∀ x ∈ P, x.length = 2 := by
    rcases g3 with h0 | h1
    · rw [List.eq_nil_of_length_eq_zero h0]; intro x hx; cases hx
    · exact h1.1
  have HEP : P.length ≠ 0 → Hid (∀ W, Below w.heap.size w W → Calls Tryf.prog 15 #[.slice Av P.length cv] W fun e w' => e = .returned (.bool true) ∧ W = w') := fun h0 => Lib.hid (fun W hb => (leaves_c (.slice Av P.length cv) P W (hv.below hb) gfP.1).mono fun _ _ r => r.yes (g3.resolve_left h0))
  by_cases g4 : (1152921504606846976 : Int) < (b : Int)
  case pos =>

    by_cases h0 : P.length = 0
    case pos =>
      clear hbs hT hF hv gfP ok HEP g3 h2 g1
      generalize hnn : P.length = n at *
      subst h0
      clear hnn
      obtain ⟨Ah, Bh, Ch⟩ := h
      unfold hashV
      go_enter Tryf.func13, Tryf.ntmps13
      go_wp2_with fail
      refine (HFP.out _ (HB.out _)).mono ?_; rintro e w' ⟨rfl, rfl⟩
      go_wp2_with fail
      go_ret
      exact ⟨rfl, HB.out _⟩
    have HE1 := HEP h0
    have hz1 : (0 : Int) < (P.length : Int) := by omega
    clear HEP g3 h2 h0
    obtain ⟨Ah, Bh, Ch⟩ := h
    unfold hashV
    clear hbs hT hF hv gfP ok
    go_enter Tryf.func13, Tryf.ntmps13
    go_wp2_with fail
    refine (HFP.out _ (HB.out _)).mono ?_; rintro e w' ⟨rfl, rfl⟩
    go_wp2_with fail
    refine (HE1.out _ (HB.out _)).mono ?_; rintro e w' ⟨rfl, rfl⟩
    go_wp2_with fail
    go_ret
    exact ⟨rfl, HB.out _⟩
  exact main F h ok b Av cv P w hF hT hv gfP HFP (by omega) (by omega) h2 HEP
theorem reads (os : Os) {H : Type} (enc : TypeId × Value → H) : ∃ places, DataW.whole enc Tryf.prog ((laidWorld os).forCall (fun _ _ => 0) ⟨#[], #[.agg #[.int .u32 0, .int .u32 0, .int .u32 0], .int .u64 0, .slice none 0 0], []⟩).memory Tryf.f13.params.toList Rows.fnAppendMakerSpec.vars false (#[.agg #[.int .u32 0, .int .u32 0, .int .u32 0], .int .u64 0, .slice none 0 0] : Array Value).toList 8 = some ([.agg [.lit (.int .u32 0), .lit (.int .u32 0), .lit (.int .u32 0)], .lit (.int .u64 0), .nil], [], places) :=
  ⟨[], by kernel_rfl⟩
set_option maxRecDepth 100000 in
theorem contract (F : Stop.Interp) (H : Type) (enc : TypeId × Value → H) (W : World) (base : Nat) (args : Array Value) (ds gs : List (DataW H)) (before : List MemPlace) (hF : F.told.answers W.tape)
    (hval0 : ∀ (j : Nat) t v, Tryf.f13.params[j]? = some t → args[j]? = some v → Value.okWide Tryf.prog W .any base t v)
    (hW : DataW.Whole enc Tryf.prog Tryf.f13.params.toList Rows.fnAppendMakerSpec.vars false W args.toList ds gs before) (hL : laidMetH Tryf.prog Rows.fnAppendMakerRow.laid W) :
    Calls Tryf.prog 13 args W fun e W' => ∃ v, e = .returned v ∧ ((OpenSpec.ofChange Rows.fnAppendMakerSpec).at F.told).post enc Tryf.prog Tryf.f13 false true false false W args v W' := by
  have hval : ∀ (j : Nat) t v, Tryf.f13.params[j]? = some t → args[j]? = some v → Value.okWide Tryf.prog W .any base t v := hval0
  have hW' := hW
  obtain ⟨p, q, hA0, hV, rfl, hfz, hnd⟩ := hW
  have hA : DataW.TrodAll enc Tryf.prog W 0 (fun _ => true) true Tryf.f13.params.toList args.toList ds p := hA0
  rw [Tryf.params13] at hA hval
  obtain ⟨v0, vs0, d0, ds0, p0, q0, hargs, rfl, rfl, h0, r0⟩ := trodAll_cons hA
  obtain ⟨v1, vs1, d1, ds1, p1, q1, rfl, rfl, rfl, h1, r1⟩ := trodAll_cons r0
  obtain ⟨v2, vs2, d2, ds2, p2, q2, rfl, rfl, rfl, h2, r2⟩ := trodAll_cons r1
  obtain ⟨rfl, rfl, rfl⟩ := trodAll_nil r2
  obtain rfl : args = #[v0, v1, v2] := by cases args; simp_all
  obtain ⟨rfl, rfl⟩ := trodVars_none hV
  have k0 := h0
  have lt0 : ∀ x ∈ p0, x.block < W.heap.size := by obtain ⟨m, hm⟩ := k0; exact DataW.trod_lt m _ _ _ hm
  obtain ⟨hh0, rfl, w0⟩ := openHash (hval 0 24 v0 rfl rfl) h0
  have k1 := h1
  have lt1 : ∀ x ∈ p1, x.block < W.heap.size := by obtain ⟨m, hm⟩ := k1; exact DataW.trod_lt m _ _ _ hm
  obtain ⟨a1, rfl, hd1, hp1, w1⟩ := open_int Tryf.underlying27 (hval 1 27 v1 rfl rfl) h1
  have k2 := h2
  have lt2 : ∀ x ∈ p2, x.block < W.heap.size := by obtain ⟨m, hm⟩ := k2; exact DataW.trod_lt m _ _ _ hm
  obtain ⟨L2, w2⟩ := openHashes (hval 2 25 v2 rfl rfl) h2
  refine (walk F.told W hF hh0 w0 a1 (bound_u64 w1) v2 L2 w2 (laidIs_of hL)).mono fun e W' ⟨he, bel⟩ => ?_
  subst he
  exact ⟨_, rfl, _, _, _, [], _, [], hW', trodAll_mk1 (shut_bool Tryf.underlying4 _), (trodAll_cons_mk (Below.trod laidOut (by kernel_rfl) (of_decide_eq_true (by kernel_rfl)) k0 bel lt0) (trodAll_cons_mk (Below.trod laidOut (by kernel_rfl) (of_decide_eq_true (by kernel_rfl)) k1 bel lt1) (trodAll_cons_mk (Below.trod laidOut (by kernel_rfl) (of_decide_eq_true (by kernel_rfl)) k2 bel lt2) trodAll_mk0))), rfl, bel.frame _, fun h => by cases h⟩
set_option maxRecDepth 100000 in
theorem lifted (os : Os) (started : os.Started) (H : Type) (enc : TypeId × Value → H) :
    ReturnsInTold none {} Tryf.checked os 13 .any Input.okWide ((OpenSpec.ofChange Rows.fnAppendMakerSpec).preRow enc Tryf.prog Tryf.f13 Rows.fnAppendMakerRow.domain false Rows.fnAppendMakerRow.laid) (fun F => ((OpenSpec.ofChange Rows.fnAppendMakerSpec).at F).post enc Tryf.prog Tryf.f13 false true false false) (aloneAtReturn Tryf.prog) nothingAlways := by
  obtain ⟨places, hx⟩ := reads os enc
  refine returnsInTold_of_row (C := Tryf.checked) (s := OpenSpec.ofChange Rows.fnAppendMakerSpec) mayEnter own started (by kernel_rfl) Tryf.func13
    (OpenSpec.witness_stopped_at (enc := enc) (C := Tryf.checked) false (laidWorld os) #[.agg #[.int .u32 0, .int .u32 0, .int .u32 0], .int .u64 0, .slice none 0 0] rfl (by kernel_rfl) (by kernel_rfl) (by kernel_rfl)
      (OpenSpec.preRow_of_cond 8 hx (by kernel_rfl) (fun k hk => by cases hk) (by kernel_rfl) (laid_met os #[.agg #[.int .u32 0, .int .u32 0, .int .u32 0], .int .u64 0, .slice none 0 0]))) ?_
  intro F W base args ds gs before _ hF hval hW _ _ _ hL _
  exact contract F H enc W base args ds gs before hF hval hW hL
theorem proved : Rows.FnAppendMakerToldSaid :=
  Claim7.holds_of_told_tied_any_at .later 13 Tryf.f13 "fmt.errorf" [] [] _ _ _ _ _ (by kernel_rfl) rfl rfl rfl laidOut (by kernel_rfl) rfl ⟨rfl, rfl, rfl, rfl, rfl, rfl, rfl⟩ rfl rfl (by kernel_rfl) (by kernel_rfl) Tryf.func13 (by kernel_rfl)
    (of_decide_eq_true (by kernel_rfl)) (by unfold Func.isWrapper; first | (rw [if_pos (by decide +kernel)]; kernel_rfl) | (rw [if_neg (by decide +kernel)]; exact ⟨rfl, rfl⟩)) stopsAre.symm rfl stopKnobs.symm (by kernel_rfl)
    (by kernel_rfl) (by kernel_rfl) (by kernel_rfl) (by kernel_rfl) (by kernel_rfl) (by kernel_rfl) (by kernel_rfl) (by kernel_rfl) (by kernel_rfl) rfl (by kernel_rfl) rfl rfl
    rfl rfl
    rfl mainIs (by kernel_rfl) (by kernel_rfl) (by decide) (by kernel_rfl) fnAppendMaker_row_tie
    (OpenClaim.moreEntering_of mayEnter (by kernel_rfl) (by kernel_rfl) (by kernel_rfl) (by kernel_rfl) (by kernel_rfl) (by kernel_rfl) (by kernel_rfl) liftsFinal.symm make)
    ⟨_, WideRow.started_initial, quiet _⟩
    (fun os started _ H enc _ => lifted os started H enc)
end Go.Proofs.YtpdmmmcelkinjaaFmt.fnAppendMaker
