/- A proof of the right length that tells another root is a RootMismatchError. -/
import Derived.Test.YtklofjhmgoejiaaFmtVerErr
import Derived.Test.YtklofjhmgoejiaaFmtRootOf
import Derived.Test.YtklofjhmgoejiaaFmtFits
import Derived.Test.YtklofjhmgoejiaaFmtOpenH
namespace Go.Proofs.YtklofjhmgoejiaaFmt.fnVerifyInclusionMismatch
open Go.ChangeShapes Go.WideShapes Go.ChangeAt Go.RowKit
set_option maxRecDepth 100000
theorem keep1 {w W w' : World} (h : Below w.heap.size w W) (hb : Below W.heap.size W w') : Below w.heap.size w w' := h.trans (hb.mono h.size)
set_option maxHeartbeats 2000000 in
theorem main (F : Stop.Interp) (h : Pl.HF) (ok : h.ok) (i : Nat) (s : Nat) (Alv : Option Addr) (clv : Nat) (ll : List Nat) (Av : Option Addr) (cv : Nat) (P : List (List Nat)) (Arv : Option Addr) (crv : Nat) (rl : List Nat) (w : World) (hF : F.answers w.tape) (hH : Handle w) (_his : i < 18446744073709551616) (hss : s < 18446744073709551616) (hlv : BytesR w (.slice Alv ll.length clv) ll) (hv : HashesR w (.slice Av P.length cv) P) (hrv : BytesR w (.slice Arv rl.length crv) rl) (_zll : ¬ (2147483647 : Int) < (ll.length : Int)) (gfP : Fits P) (HFP : Hid (∀ W, Below w.heap.size w W → Calls Tryf.prog 12 #[.slice Av P.length cv] W fun e w' => e = .returned (.bool true) ∧ W = w')) (_zrl : ¬ (2147483647 : Int) < (rl.length : Int)) (hlt : i < s) (gll : ll.length = 2) (grl : rl.length = 2) (_ghP : P.length = 0 ∨ IsLeaves P) (HSP : Hid (∀ W, Below w.heap.size w W → Calls Tryf.prog 13 #[.slice Av P.length cv] W fun e w' => e = .returned (.bool true) ∧ W = w')) :
    Calls Tryf.prog 7 #[hashV h, .int .u64 (i : Int), .int .u64 (s : Int), .slice Alv ll.length clv, .slice Av P.length cv, .slice Arv rl.length crv] w fun e w' => e = .returned (.bool true) ∧ Below w.heap.size w w' := by
  have HB := Lib.hid (fun C => (Below.refl w.heap.size w).alloc (Nat.le_refl _) (.cells C 24))
  have HPr := Lib.hid (fun (W : World) (hb : Below w.heap.size w W) => proves_c W (hH.below hb))
  have HRt := Lib.hid (fun (W : World) (hb : Below w.heap.size w W) => rootOf_c h ok P.length i s _ _ ll P W rfl (by have := gfP.1; omega) hlt hss (hlv.below hb) (hv.below hb))
  have hok := Pl.rootOf_ok (h := h) (leaf := ll) (P := P) hlt
  have hg : ¬ (s : Int) ≤ (i : Int) := by omega
  have HRV := Lib.hid (fun (W : World) (hb : Below w.heap.size w W) => (hrv.below hb).str)
  by_cases hl : P.length = (Pl.dirs i s).length
  · have hR2 : (Pl.rootOf h ll P.length i s P).2 = true := by rw [hok]; exact decide_eq_true hl
    have hR1 := Pl.rootOf_chain (h := h) (leaf := ll) hlt hl
    by_cases he : (Pl.rootOf h ll P.length i s P).1 = rl
    · have HV := Lib.hid (fun (W : World) (hb : Below w.heap.size w W) => verI_yes h ok i s hlt hss _ _ _ ll rl P W gll (hlv.below hb) (hv.below hb) (hrv.below hb) hl gfP (hH.below hb) (by rw [← hR1]; exact he))
      simp only [gll, grl] at HRt HV HRV ⊢
      generalize Pl.rootOf h ll P.length i s P = R at *
      obtain ⟨R1, R2⟩ := R
      simp only [] at hR2 he
      subst hR2 he
      clear hok hF hH hlv hv hrv gfP ok _ghP _zll _zrl hl hR1 gll grl hlt _his hss
      generalize P.length = np at *
      obtain ⟨Ah, Bh, Ch⟩ := h
      unfold hashV at HRt HV ⊢
      simp only [] at HRt HV ⊢
      go_enter Tryf.func7, Tryf.ntmps7
      go_wp2_with fail
      refine (HFP.out _ (HB.out _)).mono ?_; rintro e w' ⟨rfl, rfl⟩
      go_wp2_with fail
      refine (HSP.out _ (HB.out _)).mono ?_; rintro e w' ⟨rfl, rfl⟩
      go_wp2_with fail
      refine (HRt.out _ (HB.out _)).mono ?_; rintro e w1 ⟨v1, rfl, hv1, hb1⟩
      have B1 := keep1 (HB.out _) hb1
      have K1 : Blk w1 w.heap.size 24 #[.int .u32 (Ah : Int), .int .u32 (Bh : Int), .int .u32 (Ch : Int)] := (Blk.new w _ _).below' hb1
      have V1 := Lib.hid hv1
      obtain ⟨A1, n1, k1, rfl⟩ := hv1.form
      obtain ⟨c1, c2, c3, _⟩ := K1.three
      clear hb1 hv1 K1
      have s1 := V1.out.str
      have s2 := HRV.out _ B1
      clear c1 c2 c3
      go_wp2_with fail
      refine (HPr.out _ B1).mono ?_; rintro e w3 ⟨rfl, hb3⟩
      have B3 := keep1 B1 hb3
      clear hb3
      go_wp2_with fail
      go_ret
      exact ⟨by first | rfl | (simp <;> omega), B3⟩
    · have HV := Lib.hid (fun (W : World) (hb : Below w.heap.size w W) => verI_no h ok i s hlt hss _ _ _ ll rl P W gll (hlv.below hb) (hv.below hb) (hrv.below hb) hl gfP (hH.below hb) (by rw [← hR1]; exact he))
      have HRB := Lib.hid hrv.bytes
      simp only [gll, grl] at HRt HV HRV ⊢
      generalize Pl.rootOf h ll P.length i s P = R at *
      obtain ⟨R1, R2⟩ := R
      simp only [] at hR2 he
      subst hR2
      have HE := Lib.hid he
      clear hok hF hH hlv hv hrv gfP ok _ghP _zll _zrl hl hR1 gll grl hlt _his hss he
      generalize P.length = np at *
      obtain ⟨Ah, Bh, Ch⟩ := h
      unfold hashV at HRt HV ⊢
      simp only [] at HRt HV ⊢
      go_enter Tryf.func7, Tryf.ntmps7
      go_wp2_with fail
      refine (HFP.out _ (HB.out _)).mono ?_; rintro e w' ⟨rfl, rfl⟩
      go_wp2_with fail
      refine (HSP.out _ (HB.out _)).mono ?_; rintro e w' ⟨rfl, rfl⟩
      go_wp2_with fail
      refine (HRt.out _ (HB.out _)).mono ?_; rintro e w1 ⟨v1, rfl, hv1, hb1⟩
      have B1 := keep1 (HB.out _) hb1
      have K1 : Blk w1 w.heap.size 24 #[.int .u32 (Ah : Int), .int .u32 (Bh : Int), .int .u32 (Ch : Int)] := (Blk.new w _ _).below' hb1
      have V1 := Lib.hid hv1
      obtain ⟨A1, n1, k1, rfl⟩ := hv1.form
      obtain ⟨c1, c2, c3, _⟩ := K1.three
      clear hb1 hv1 K1
      have s1 := V1.out.str
      have s2 := HRV.out _ B1
      have hne := bs_ne HRB.out V1.out.bytes (fun e => HE.out e.symm)
      go_wp2_with fail
      refine (HV.out _ B1).mono ?_; rintro e w2 ⟨rfl, hb2⟩
      have B2 := keep1 B1 hb2
      clear c1 c2 c3 hb2 s1 s2
      go_wp2_with fail
      refine (HPr.out _ B2).mono ?_; rintro e w3 ⟨rfl, hb3⟩
      have B3 := keep1 B2 hb3
      clear hb3
      go_wp2_with fail
      go_ret
      exact ⟨by first | rfl | (simp <;> omega), B3⟩
  · have hR2 : (Pl.rootOf h ll P.length i s P).2 = false := by rw [hok]; exact decide_eq_false hl
    have HV := Lib.hid (fun (W : World) (hb : Below w.heap.size w W) => verI_err F h i s (by omega) hss _ _ _ ll rl P W (ans_below hF hb) (hlv.below hb) (hv.below hb) (hrv.below hb) gfP (hH.below hb) (.inr (.inr hl)))
    simp only [gll, grl] at HRt HV HRV ⊢
    generalize Pl.rootOf h ll P.length i s P = R at *
    obtain ⟨R1, R2⟩ := R
    simp only [] at hR2
    subst hR2
    clear hok hF hH hlv hv hrv gfP ok _ghP _zll _zrl hl gll grl hlt _his hss
    generalize P.length = np at *
    obtain ⟨Ah, Bh, Ch⟩ := h
    unfold hashV at HRt HV ⊢
    simp only [] at HRt HV ⊢
    go_enter Tryf.func7, Tryf.ntmps7
    go_wp2_with fail
    refine (HFP.out _ (HB.out _)).mono ?_; rintro e w' ⟨rfl, rfl⟩
    go_wp2_with fail
    refine (HSP.out _ (HB.out _)).mono ?_; rintro e w' ⟨rfl, rfl⟩
    go_wp2_with fail
    refine (HRt.out _ (HB.out _)).mono ?_; rintro e w1 ⟨v1, rfl, hv1, hb1⟩
    have B1 := keep1 (HB.out _) hb1
    have K1 : Blk w1 w.heap.size 24 #[.int .u32 (Ah : Int), .int .u32 (Bh : Int), .int .u32 (Ch : Int)] := (Blk.new w _ _).below' hb1
    have V1 := Lib.hid hv1
    obtain ⟨A1, n1, k1, rfl⟩ := hv1.form
    obtain ⟨c1, c2, c3, _⟩ := K1.three
    clear hb1 hv1 K1
    clear c1 c2 c3
    go_wp2_with fail
    refine (HPr.out _ B1).mono ?_; rintro e w3 ⟨rfl, hb3⟩
    have B3 := keep1 B1 hb3
    clear hb3
    go_wp2_with fail
    go_ret
    exact ⟨by first | rfl | (simp <;> omega), B3⟩
set_option maxHeartbeats 2000000 in
theorem walk (F : Stop.Interp) (w : World) (hF : F.answers w.tape) (h : Pl.HF) (ok : h.ok) (a1 : Int) (w1 : 0 ≤ a1 ∧ a1 < 18446744073709551616) (a2 : Int) (w2 : 0 ≤ a2 ∧ a2 < 18446744073709551616) (lv : Value) (ll : List Nat) (hlv : BytesR w lv ll) (v : Value) (P : List (List Nat)) (hv : HashesR w v P) (rv : Value) (rl : List Nat) (hrv : BytesR w rv rl) (hT : LaidIsH w) :
    Calls Tryf.prog 7 #[hashV h, .int .u64 a1, .int .u64 a2, lv, v, rv] w fun e w' => e = .returned (.bool true) ∧ Below w.heap.size w w' := by
  obtain ⟨i, rfl⟩ := Int.eq_ofNat_of_zero_le w1.1
  have his : i < 18446744073709551616 := by omega
  obtain ⟨s, rfl⟩ := Int.eq_ofNat_of_zero_le w2.1
  have hss : s < 18446744073709551616 := by omega
  have HB := Lib.hid (fun C => (Below.refl w.heap.size w).alloc (Nat.le_refl _) (.cells C 24))
  obtain ⟨Alv, clv, elv, h9lv⟩ := id hlv
  clear h9lv
  obtain ⟨Av, cv, ev, h9v⟩ := id hv
  clear h9v
  obtain ⟨Arv, crv, erv, h9rv⟩ := id hrv
  clear h9rv
  subst elv
  subst ev
  subst erv
  by_cases g0 : (2147483647 : Int) < (ll.length : Int)
  case pos =>
    obtain ⟨Ah, Bh, Ch⟩ := h
    unfold hashV
    clear hT hF his w1 hss w2 hlv hv hrv ok
    go_enter Tryf.func7, Tryf.ntmps7
    go_wp2_with fail
    go_ret
    exact ⟨rfl, HB.out _⟩
  by_cases g1 : ¬ Fits P
  case pos =>
    have HFx : Hid (∀ W, Below w.heap.size w W → Calls Tryf.prog 12 #[.slice Av P.length cv] W fun e w' => e = .returned (.bool false) ∧ W = w') := Lib.hid (fun W hb => (fits1_c (.slice Av P.length cv) P W (hv.below hb)).mono fun _ _ r => r.no g1)
    obtain ⟨Ah, Bh, Ch⟩ := h
    unfold hashV
    clear hT hF his w1 hss w2 hlv hv hrv g1 ok
    go_enter Tryf.func7, Tryf.ntmps7
    go_wp2_with fail
    refine (HFx.out _ (HB.out _)).mono ?_; rintro e w' ⟨rfl, rfl⟩
    go_wp2_with fail
    go_ret
    exact ⟨rfl, HB.out _⟩
  have gfP : Fits P := Classical.not_not.1 g1
  clear g1
  have HFP : Hid (∀ W, Below w.heap.size w W → Calls Tryf.prog 12 #[.slice Av P.length cv] W fun e w' => e = .returned (.bool true) ∧ W = w') := Lib.hid (fun W hb => (fits1_c (.slice Av P.length cv) P W (hv.below hb)).mono fun _ _ r => r.yes gfP)
  by_cases g2 : (2147483647 : Int) < (rl.length : Int)
  case pos =>
    obtain ⟨Ah, Bh, Ch⟩ := h
    unfold hashV
    clear hT hF his w1 hss w2 hlv hv hrv gfP ok
    go_enter Tryf.func7, Tryf.ntmps7
    go_wp2_with fail
    refine (HFP.out _ (HB.out _)).mono ?_; rintro e w' ⟨rfl, rfl⟩
    go_wp2_with fail
    go_ret
    exact ⟨rfl, HB.out _⟩
  by_cases g3 : (s : Int) ≤ (i : Int)
  case pos =>
    obtain ⟨Ah, Bh, Ch⟩ := h
    unfold hashV
    clear hT hF his w1 hss w2 hlv hv hrv gfP ok
    go_enter Tryf.func7, Tryf.ntmps7
    go_wp2_with fail
    refine (HFP.out _ (HB.out _)).mono ?_; rintro e w' ⟨rfl, rfl⟩
    go_wp2_with fail
    go_ret
    exact ⟨rfl, HB.out _⟩
  by_cases g4 : ¬ (ll.length : Int) = 2
  case pos =>
    obtain ⟨Ah, Bh, Ch⟩ := h
    unfold hashV
    clear hT hF his w1 hss w2 hlv hv hrv gfP ok
    go_enter Tryf.func7, Tryf.ntmps7
    go_wp2_with fail
    refine (HFP.out _ (HB.out _)).mono ?_; rintro e w' ⟨rfl, rfl⟩
    go_wp2_with fail
    go_ret
    exact ⟨rfl, HB.out _⟩
  have g4' : ll.length = 2 := by have := Classical.not_not.1 g4; omega
  clear g4
  have g4 : (ll.length : Int) = 2 := by omega
  by_cases g5 : ¬ (rl.length : Int) = 2
  case pos =>
    obtain ⟨Ah, Bh, Ch⟩ := h
    unfold hashV
    clear hT hF his w1 hss w2 hlv hv hrv gfP ok
    go_enter Tryf.func7, Tryf.ntmps7
    go_wp2_with fail
    refine (HFP.out _ (HB.out _)).mono ?_; rintro e w' ⟨rfl, rfl⟩
    go_wp2_with fail
    go_ret
    exact ⟨rfl, HB.out _⟩
  have g5' : rl.length = 2 := by have := Classical.not_not.1 g5; omega
  clear g5
  have g5 : (rl.length : Int) = 2 := by omega
  by_cases g6 : ¬ (P.length = 0 ∨ IsLeaves P)
  case pos =>
    have HSx : Hid (∀ W, Below w.heap.size w W → Calls Tryf.prog 13 #[.slice Av P.length cv] W fun e w' => e = .returned (.bool false) ∧ W = w') := Lib.hid (fun W hb => (hashes_s (.slice Av P.length cv) P W (hv.below hb) gfP.1).mono fun _ _ r => r.no g6)
    obtain ⟨Ah, Bh, Ch⟩ := h
    unfold hashV
    clear hT hF his w1 hss w2 hlv hv hrv gfP g6 ok
    go_enter Tryf.func7, Tryf.ntmps7
    go_wp2_with fail
    refine (HFP.out _ (HB.out _)).mono ?_; rintro e w' ⟨rfl, rfl⟩
    go_wp2_with fail
    refine (HSx.out _ (HB.out _)).mono ?_; rintro e w' ⟨rfl, rfl⟩
    go_wp2_with fail
    go_ret
    exact ⟨rfl, HB.out _⟩
  have ghP : P.length = 0 ∨ IsLeaves P := Classical.not_not.1 g6
  clear g6
  have HSP : Hid (∀ W, Below w.heap.size w W → Calls Tryf.prog 13 #[.slice Av P.length cv] W fun e w' => e = .returned (.bool true) ∧ W = w') := Lib.hid (fun W hb => (hashes_s (.slice Av P.length cv) P W (hv.below hb) gfP.1).mono fun _ _ r => r.yes ghP)
  exact main F h ok i s Alv clv ll Av cv P Arv crv rl w hF hT.handle his hss hlv hv hrv g0 gfP HFP g2 (by omega) g4' g5' ghP HSP
theorem reads (os : Os) {H : Type} (enc : TypeId × Value → H) : ∃ places, DataW.whole enc Tryf.prog ((laidWorldH os).forCall (fun _ _ => 0) ⟨#[], #[.agg #[.int .u32 0, .int .u32 0, .int .u32 0], .int .u64 0, .int .u64 0, .slice none 0 0, .slice none 0 0, .slice none 0 0], []⟩).memory Tryf.f7.params.toList Rows.fnVerifyInclusionMismatchSpec.vars false (#[.agg #[.int .u32 0, .int .u32 0, .int .u32 0], .int .u64 0, .int .u64 0, .slice none 0 0, .slice none 0 0, .slice none 0 0] : Array Value).toList 8 = some ([.agg [.lit (.int .u32 0), .lit (.int .u32 0), .lit (.int .u32 0)], .lit (.int .u64 0), .lit (.int .u64 0), .nil, .nil, .nil], [], places) :=
  ⟨[], by kernel_rfl⟩
set_option maxRecDepth 100000 in
theorem contract (F : Stop.Interp) (H : Type) (enc : TypeId × Value → H) (W : World) (base : Nat) (args : Array Value) (ds gs : List (DataW H)) (before : List MemPlace) (hF : F.told.answers W.tape)
    (hval0 : ∀ (j : Nat) t v, Tryf.f7.params[j]? = some t → args[j]? = some v → Value.okWide Tryf.prog W .any base t v)
    (hW : DataW.Whole enc Tryf.prog Tryf.f7.params.toList Rows.fnVerifyInclusionMismatchSpec.vars false W args.toList ds gs before) (hL : laidMetH Tryf.prog Rows.fnVerifyInclusionMismatchRow.laid W) :
    Calls Tryf.prog 7 args W fun e W' => ∃ v, e = .returned v ∧ ((OpenSpec.ofChange Rows.fnVerifyInclusionMismatchSpec).at F.told).post enc Tryf.prog Tryf.f7 false true false false W args v W' := by
  have hval : ∀ (j : Nat) t v, Tryf.f7.params[j]? = some t → args[j]? = some v → Value.okWide Tryf.prog W .any base t v := hval0
  have hW' := hW
  obtain ⟨p, q, hA0, hV, rfl, hfz, hnd⟩ := hW
  have hA : DataW.TrodAll enc Tryf.prog W 0 (fun _ => true) true Tryf.f7.params.toList args.toList ds p := hA0
  rw [Tryf.params7] at hA hval
  obtain ⟨v0, vs0, d0, ds0, p0, q0, hargs, rfl, rfl, h0, r0⟩ := trodAll_cons hA
  obtain ⟨v1, vs1, d1, ds1, p1, q1, rfl, rfl, rfl, h1, r1⟩ := trodAll_cons r0
  obtain ⟨v2, vs2, d2, ds2, p2, q2, rfl, rfl, rfl, h2, r2⟩ := trodAll_cons r1
  obtain ⟨v3, vs3, d3, ds3, p3, q3, rfl, rfl, rfl, h3, r3⟩ := trodAll_cons r2
  obtain ⟨v4, vs4, d4, ds4, p4, q4, rfl, rfl, rfl, h4, r4⟩ := trodAll_cons r3
  obtain ⟨v5, vs5, d5, ds5, p5, q5, rfl, rfl, rfl, h5, r5⟩ := trodAll_cons r4
  obtain ⟨rfl, rfl, rfl⟩ := trodAll_nil r5
  obtain rfl : args = #[v0, v1, v2, v3, v4, v5] := by cases args; simp_all
  obtain ⟨rfl, rfl⟩ := trodVars_none hV
  have k0 := h0
  have lt0 : ∀ x ∈ p0, x.block < W.heap.size := by obtain ⟨m, hm⟩ := k0; exact DataW.trod_lt m _ _ _ hm
  obtain ⟨hh0, rfl, w0⟩ := openHash (hval 0 24 v0 rfl rfl) h0
  have k1 := h1
  have lt1 : ∀ x ∈ p1, x.block < W.heap.size := by obtain ⟨m, hm⟩ := k1; exact DataW.trod_lt m _ _ _ hm
  obtain ⟨a1, rfl, hd1, hp1, w1⟩ := open_int Tryf.underlying25 (hval 1 25 v1 rfl rfl) h1
  have k2 := h2
  have lt2 : ∀ x ∈ p2, x.block < W.heap.size := by obtain ⟨m, hm⟩ := k2; exact DataW.trod_lt m _ _ _ hm
  obtain ⟨a2, rfl, hd2, hp2, w2⟩ := open_int Tryf.underlying25 (hval 2 25 v2 rfl rfl) h2
  have k3 := h3
  have lt3 : ∀ x ∈ p3, x.block < W.heap.size := by obtain ⟨m, hm⟩ := k3; exact DataW.trod_lt m _ _ _ hm
  obtain ⟨L3, w3⟩ := openBytes (hval 3 26 v3 rfl rfl) h3
  have k4 := h4
  have lt4 : ∀ x ∈ p4, x.block < W.heap.size := by obtain ⟨m, hm⟩ := k4; exact DataW.trod_lt m _ _ _ hm
  obtain ⟨L4, w4⟩ := openHashes (hval 4 27 v4 rfl rfl) h4
  have k5 := h5
  have lt5 : ∀ x ∈ p5, x.block < W.heap.size := by obtain ⟨m, hm⟩ := k5; exact DataW.trod_lt m _ _ _ hm
  obtain ⟨L5, w5⟩ := openBytes (hval 5 26 v5 rfl rfl) h5
  refine (walk F.told W hF hh0 w0 a1 (bound_u64 w1) a2 (bound_u64 w2) v3 L3 w3 v4 L4 w4 v5 L5 w5 (laidIsH_of hL)).mono fun e W' ⟨he, bel⟩ => ?_
  subst he
  exact ⟨_, rfl, _, _, _, [], _, [], hW', trodAll_mk1 (shut_bool Tryf.underlying4 _), (trodAll_cons_mk (Below.trod laidOut (by kernel_rfl) (of_decide_eq_true (by kernel_rfl)) k0 bel lt0) (trodAll_cons_mk (Below.trod laidOut (by kernel_rfl) (of_decide_eq_true (by kernel_rfl)) k1 bel lt1) (trodAll_cons_mk (Below.trod laidOut (by kernel_rfl) (of_decide_eq_true (by kernel_rfl)) k2 bel lt2) (trodAll_cons_mk (Below.trod laidOut (by kernel_rfl) (of_decide_eq_true (by kernel_rfl)) k3 bel lt3) (trodAll_cons_mk (Below.trod laidOut (by kernel_rfl) (of_decide_eq_true (by kernel_rfl)) k4 bel lt4) (trodAll_cons_mk (Below.trod laidOut (by kernel_rfl) (of_decide_eq_true (by kernel_rfl)) k5 bel lt5) trodAll_mk0)))))), rfl, bel.frame _, fun h => by cases h⟩
set_option maxRecDepth 100000 in
theorem lifted (os : Os) (started : os.Started) (H : Type) (enc : TypeId × Value → H) :
    ReturnsInTold none {} Tryf.checked os 7 .any Input.okWide ((OpenSpec.ofChange Rows.fnVerifyInclusionMismatchSpec).preRow enc Tryf.prog Tryf.f7 Rows.fnVerifyInclusionMismatchRow.domain false Rows.fnVerifyInclusionMismatchRow.laid) (fun F => ((OpenSpec.ofChange Rows.fnVerifyInclusionMismatchSpec).at F).post enc Tryf.prog Tryf.f7 false true false false) (aloneAtReturn Tryf.prog) nothingAlways := by
  obtain ⟨places, hx⟩ := reads os enc
  refine returnsInTold_of_row (C := Tryf.checked) (s := OpenSpec.ofChange Rows.fnVerifyInclusionMismatchSpec) mayEnter own started (by kernel_rfl) Tryf.func7
    (OpenSpec.witness_stopped_at (enc := enc) (C := Tryf.checked) false (laidWorldH os) #[.agg #[.int .u32 0, .int .u32 0, .int .u32 0], .int .u64 0, .int .u64 0, .slice none 0 0, .slice none 0 0, .slice none 0 0] rfl (by kernel_rfl) (by kernel_rfl) (by kernel_rfl)
      (OpenSpec.preRow_of_cond 8 hx (by kernel_rfl) (fun k hk => by cases hk) (by kernel_rfl) (laid_metH os #[.agg #[.int .u32 0, .int .u32 0, .int .u32 0], .int .u64 0, .int .u64 0, .slice none 0 0, .slice none 0 0, .slice none 0 0]))) ?_
  intro F W base args ds gs before _ hF hval hW _ _ _ hL _
  exact contract F H enc W base args ds gs before hF hval hW hL
theorem proved : Rows.FnVerifyInclusionMismatchToldSaid :=
  Claim7.holds_of_told_tied_any_at .later 7 Tryf.f7 "fmt.errorf" [] [] _ _ _ _ _ (by kernel_rfl) rfl rfl rfl laidOut (by kernel_rfl) rfl ⟨rfl, rfl, rfl, rfl, rfl, rfl, rfl⟩ rfl rfl (by kernel_rfl) (by kernel_rfl) Tryf.func7 (by kernel_rfl)
    (of_decide_eq_true (by kernel_rfl)) (by unfold Func.isWrapper; first | (rw [if_pos (by decide +kernel)]; kernel_rfl) | (rw [if_neg (by decide +kernel)]; exact ⟨rfl, rfl⟩)) stopsAre.symm rfl stopKnobs.symm (by kernel_rfl)
    (by kernel_rfl) (by kernel_rfl) (by kernel_rfl) (by kernel_rfl) (by kernel_rfl) (by kernel_rfl) (by kernel_rfl) (by kernel_rfl) (by kernel_rfl) rfl (by kernel_rfl) rfl rfl
    rfl rfl
    rfl mainIs (by kernel_rfl) (by kernel_rfl) (by decide) (by kernel_rfl) fnVerifyInclusionMismatch_row_tie
    (OpenClaim.moreEntering_of mayEnter (by kernel_rfl) (by kernel_rfl) (by kernel_rfl) (by kernel_rfl) (by kernel_rfl) (by kernel_rfl) (by kernel_rfl) liftsFinal.symm make)
    ⟨_, WideRow.started_initial, quiet _⟩
    (fun os started _ H enc _ => lifted os started H enc)
end Go.Proofs.YtklofjhmgoejiaaFmt.fnVerifyInclusionMismatch
