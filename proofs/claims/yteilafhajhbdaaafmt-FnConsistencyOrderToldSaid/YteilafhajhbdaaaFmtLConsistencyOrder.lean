/- A first size that is greater is an error. -/
import Derived.Test.YteilafhajhbdaaaFmtVerC
import Derived.Test.YteilafhajhbdaaaFmtFits
import Derived.Test.YteilafhajhbdaaaFmtOpenH
namespace Go.Proofs.YteilafhajhbdaaaFmt.fnConsistencyOrder
open Go.ChangeShapes Go.WideShapes Go.ChangeAt Go.RowKit
set_option maxRecDepth 100000
theorem keep1 {w W w' : World} (h : Below w.heap.size w W) (hb : Below W.heap.size W w') : Below w.heap.size w w' := h.trans (hb.mono h.size)
theorem fmtTree : Fmt2 ⟨#[116, 114, 101, 101, 32, 115, 105, 122, 101, 32, 37, 100, 32, 62, 32, 37, 100]⟩ := ⟨by kernel_rfl, fun w => by kernel_rfl⟩
theorem cons_err (F : Stop.Interp) (m s : Nat) (w : World) (hF : F.answers w.tape) (hm : s < m) : Calls Tryf.prog 24 #[.int .u64 (m : Int), .int .u64 (s : Int)] w fun e w' => ∃ g, e = .returned (.tuple #[.agg #[.slice none 0 0, .int .i64 0, .int .i64 0, .int .u64 0, .int .u64 0], .iface 99 (.pointer (some ⟨g, 0, none⟩))]) ∧ Below w.heap.size w w' := by
  have HF := Lib.hid (fun (W : World) (hb : Below w.heap.size w W) => ans_below hF hb)
  have hg : (s : Int) < (m : Int) := by omega
  have hg1 : decide (s < m) = true := decide_eq_true hm
  clear hF hm
  go_enter Tryf.func24, Tryf.ntmps24
  go_wp2_with fail
  have B1 := ((Below.refl w.heap.size w).alloc (Nat.le_refl _) (.cells #[.slice none 0 0, .int .i64 0, .int .i64 0, .int .u64 0, .int .u64 0] 59)).alloc (by simp) (.cells #[.iface 28 (.int .u64 (m : Int)), .iface 28 (.int .u64 (s : Int))] 20)
  refine (errorf_uu F _ fmtTree (m : Int) (s : Int) (w.heap.size + 1) _ (HF.out _ B1) (by simp) (by simp)).mono ?_
  rintro r w1 ⟨⟨g, rfl⟩, hb⟩
  have B2 := B1.trans (hb.mono B1.size)
  have K := ((Blk.new w 59 #[.slice none 0 0, .int .i64 0, .int .i64 0, .int .u64 0, .int .u64 0]).alloc (.cells #[.iface 28 (.int .u64 (m : Int)), .iface 28 (.int .u64 (s : Int))] 20)).below' hb
  have hlt := K.lt
  obtain ⟨c1, c2, c3, c4, c5, f1, f2, f3, f4, f5⟩ := K.five
  clear hb B1 K
  go_wp2_with fail
  exact bodyPost_ret (v := .tuple #[.agg #[.slice none 0 0, .int .i64 0, .int .i64 0, .int .u64 0, .int .u64 0], .iface 99 (.pointer (some ⟨g, 0, none⟩))]) (by simp [results, Tryf.results24, go_sem, c1, c2, c3, c4, c5]) rfl
    ⟨g, rfl, ((((B2.setCell (p := ⟨w.heap.size, 0, none⟩) (Nat.le_refl _) _).setCell (p := ⟨w.heap.size, 1, none⟩) (Nat.le_refl _) _).setCell (p := ⟨w.heap.size, 2, none⟩) (Nat.le_refl _) _).setCell (p := ⟨w.heap.size, 3, none⟩) (Nat.le_refl _) _).setCell (p := ⟨w.heap.size, 4, none⟩) (Nat.le_refl _) _⟩
theorem implCons_err (F : Stop.Interp) (m s : Nat) (w : World) (hF : F.answers w.tape) (hm : s < m) : Calls Tryf.prog 16 #[.int .u64 (m : Int), .int .u64 (s : Int)] w fun e w' => e = .returned (.tuple #[.agg #[.slice none 0 0, .int .u64 0, .int .u64 0, .int .i64 0, .int .i64 0], .bool false]) ∧ Below w.heap.size w w' := by
  have HE := Lib.hid (fun (W : World) (hb : Below w.heap.size w W) => cons_err F m s W (ans_below hF hb) hm)
  clear hF hm
  go_enter Tryf.func16, Tryf.ntmps16
  go_wp2_with fail
  have B0 := (Below.refl w.heap.size w).alloc (Nat.le_refl _) (.cells #[.slice none 0 0, .int .u64 0, .int .u64 0, .int .i64 0, .int .i64 0] 44)
  refine (HE.out _ B0).mono ?_
  rintro r w1 ⟨g, rfl, hb⟩
  have B1 := B0.trans (hb.mono B0.size)
  have K := (Blk.new w 44 #[.slice none 0 0, .int .u64 0, .int .u64 0, .int .i64 0, .int .i64 0]).below' hb
  have hlt := K.lt
  obtain ⟨c1, c2, c3, c4, c5, f1, f2, f3, f4, f5⟩ := K.five
  have K5 := Lib.hid (show Blk (((((w1.setCell ⟨w.heap.size, 0, none⟩ (.slice none 0 0)).setCell ⟨w.heap.size, 1, none⟩ (.int .u64 0)).setCell ⟨w.heap.size, 2, none⟩ (.int .u64 0)).setCell ⟨w.heap.size, 3, none⟩ (.int .i64 0)).setCell ⟨w.heap.size, 4, none⟩ (.int .i64 0)) w.heap.size 44 #[.slice none 0 0, .int .u64 0, .int .u64 0, .int .i64 0, .int .i64 0] from ((((K.set_ 0 _).set_ 1 _).set_ 2 _).set_ 3 _).set_ 4 _)
  clear hb B0 K
  go_wp2_with fail
  have B5 := ((((B1.setCell (p := ⟨w.heap.size, 0, none⟩) (Nat.le_refl _) (.slice none 0 0)).setCell (p := ⟨w.heap.size, 1, none⟩) (Nat.le_refl _) (.int .u64 0)).setCell (p := ⟨w.heap.size, 2, none⟩) (Nat.le_refl _) (.int .u64 0)).setCell (p := ⟨w.heap.size, 3, none⟩) (Nat.le_refl _) (.int .i64 0)).setCell (p := ⟨w.heap.size, 4, none⟩) (Nat.le_refl _) (.int .i64 0)
  have K6 := K5.out.alloc (.cells #[.slice none 0 0, .int .i64 0, .int .i64 0, .int .u64 0, .int .u64 0] 59)
  obtain ⟨d1, d2, d3, d4, d5, _⟩ := K6.five
  exact bodyPost_ret (v := .tuple #[.agg #[.slice none 0 0, .int .u64 0, .int .u64 0, .int .i64 0, .int .i64 0], .bool false]) (by simp [results, Tryf.results16, go_sem, d1, d2, d3, d4, d5]) rfl
    ⟨rfl, B5.alloc B5.size _⟩
set_option maxHeartbeats 2000000 in
theorem main (F : Stop.Interp) (h : Pl.HF) (_ok : h.ok) (m : Nat) (s : Nat) (Av : Option Addr) (cv : Nat) (P : List (List Nat)) (Axv : Option Addr) (cxv : Nat) (xl : List Nat) (Ayv : Option Addr) (cyv : Nat) (yl : List Nat) (w : World) (hF : F.answers w.tape) (hH : Handle w) (_hTb : Tab w) (_hms : m < 18446744073709551616) (_hss : s < 18446744073709551616) (hv : HashesR w (.slice Av P.length cv) P) (hxv : BytesR w (.slice Axv xl.length cxv) xl) (hyv : BytesR w (.slice Ayv yl.length cyv) yl) (gfP : Fits P) (HFP : Hid (∀ W, Below w.heap.size w W → Calls Tryf.prog 8 #[.slice Av P.length cv] W fun e w' => e = .returned (.bool true) ∧ W = w')) (_zxl : ¬ (2147483647 : Int) < (xl.length : Int)) (_zyl : ¬ (2147483647 : Int) < (yl.length : Int)) (hgt : s < m) :
    Calls Tryf.prog 7 #[hashV h, .int .u64 (m : Int), .int .u64 (s : Int), .slice Av P.length cv, .slice Axv xl.length cxv, .slice Ayv yl.length cyv] w fun e w' => e = .returned (.bool true) ∧ Below w.heap.size w w' := by
  have HB := Lib.hid (fun C => (Below.refl w.heap.size w).alloc (Nat.le_refl _) (.cells C 24))
  have HPr := Lib.hid (fun (W : World) (hb : Below w.heap.size w W) => proves_c W (hH.below hb))
  have hd1 : decide (m ≤ s) = false := decide_eq_false (by omega)
  have hge : ¬ (m : Int) ≤ (s : Int) := by omega
  have HI := Lib.hid (fun (W : World) (hb : Below w.heap.size w W) => implCons_err F m s W (ans_below hF hb) hgt)
  have HV := Lib.hid (fun (W : World) (hb : Below w.heap.size w W) => verC_order F h m s _ _ _ xl yl P W (ans_below hF hb) (hxv.below hb) (hv.below hb) (hyv.below hb) gfP (hH.below hb) hgt)
  clear hF hH _hTb hv hxv hyv gfP _ok _hms _hss hgt
  generalize P.length = np at *
  generalize xl.length = nx at *
  generalize yl.length = ny at *
  obtain ⟨Ah, Bh, Ch⟩ := h
  unfold hashV at HV ⊢
  simp only [] at HV ⊢
  go_enter Tryf.func7, Tryf.ntmps7
  go_wp2_with fail
  refine (HFP.out _ (HB.out _)).mono ?_; rintro e w' ⟨rfl, rfl⟩
  go_wp2_with fail
  refine (HI.out _ (HB.out _)).mono ?_; rintro e w1 ⟨rfl, hb1⟩
  have B1 := keep1 (HB.out _) hb1
  have K1 : Blk w1 w.heap.size 24 #[.int .u32 (Ah : Int), .int .u32 (Bh : Int), .int .u32 (Ch : Int)] := (Blk.new w _ _).below' hb1
  obtain ⟨c1, c2, c3, _⟩ := K1.three
  have hww := K1.lt
  clear hb1 K1
  go_wp2_with fail
  have B1' := B1.alloc B1.size (.cells #[.slice none 0 0, .int .u64 0, .int .u64 0, .int .i64 0, .int .i64 0] 44)
  first | refine (HV.out _ B1).mono ?_ | refine (HV.out _ B1').mono ?_
  rintro e w2 ⟨rfl, hb2⟩
  have B2 : Below w.heap.size w w2 := by first | exact keep1 B1 hb2 | exact keep1 B1' hb2
  clear hb2 c1 c2 c3
  go_wp2_with fail
  refine (HPr.out _ B2).mono ?_; rintro e w3 ⟨rfl, hb3⟩
  have B3 := keep1 B2 hb3
  clear hb3
  go_wp2_with fail
  go_ret
  exact ⟨by first | rfl | (simp <;> omega), B3⟩
set_option maxHeartbeats 2000000 in
theorem walk (F : Stop.Interp) (w : World) (hF : F.answers w.tape) (h : Pl.HF) (ok : h.ok) (a1 : Int) (w1 : 0 ≤ a1 ∧ a1 < 18446744073709551616) (a2 : Int) (w2 : 0 ≤ a2 ∧ a2 < 18446744073709551616) (v : Value) (P : List (List Nat)) (hv : HashesR w v P) (xv : Value) (xl : List Nat) (hxv : BytesR w xv xl) (yv : Value) (yl : List Nat) (hyv : BytesR w yv yl) (hT : LaidIsH w) :
    Calls Tryf.prog 7 #[hashV h, .int .u64 a1, .int .u64 a2, v, xv, yv] w fun e w' => e = .returned (.bool true) ∧ Below w.heap.size w w' := by
  obtain ⟨m, rfl⟩ := Int.eq_ofNat_of_zero_le w1.1
  have hms : m < 18446744073709551616 := by omega
  obtain ⟨s, rfl⟩ := Int.eq_ofNat_of_zero_le w2.1
  have hss : s < 18446744073709551616 := by omega
  have HB := Lib.hid (fun C => (Below.refl w.heap.size w).alloc (Nat.le_refl _) (.cells C 24))
  obtain ⟨Av, cv, ev, h9v⟩ := id hv
  clear h9v
  obtain ⟨Axv, cxv, exv, h9xv⟩ := id hxv
  clear h9xv
  obtain ⟨Ayv, cyv, eyv, h9yv⟩ := id hyv
  clear h9yv
  subst ev
  subst exv
  subst eyv
  by_cases g0 : ¬ Fits P
  case pos =>
    have HFx : Hid (∀ W, Below w.heap.size w W → Calls Tryf.prog 8 #[.slice Av P.length cv] W fun e w' => e = .returned (.bool false) ∧ W = w') := Lib.hid (fun W hb => (fits1_c (.slice Av P.length cv) P W (hv.below hb)).mono fun _ _ r => r.no g0)
    obtain ⟨Ah, Bh, Ch⟩ := h
    unfold hashV
    clear hT hF hms w1 hss w2 hv hxv hyv g0 ok
    go_enter Tryf.func7, Tryf.ntmps7
    go_wp2_with fail
    refine (HFx.out _ (HB.out _)).mono ?_; rintro e w' ⟨rfl, rfl⟩
    go_wp2_with fail
    go_ret
    exact ⟨rfl, HB.out _⟩
  have gfP : Fits P := Classical.not_not.1 g0
  clear g0
  have HFP : Hid (∀ W, Below w.heap.size w W → Calls Tryf.prog 8 #[.slice Av P.length cv] W fun e w' => e = .returned (.bool true) ∧ W = w') := Lib.hid (fun W hb => (fits1_c (.slice Av P.length cv) P W (hv.below hb)).mono fun _ _ r => r.yes gfP)
  by_cases g1 : (2147483647 : Int) < (xl.length : Int)
  case pos =>
    obtain ⟨Ah, Bh, Ch⟩ := h
    unfold hashV
    clear hT hF hms w1 hss w2 hv hxv hyv gfP ok
    go_enter Tryf.func7, Tryf.ntmps7
    go_wp2_with fail
    refine (HFP.out _ (HB.out _)).mono ?_; rintro e w' ⟨rfl, rfl⟩
    go_wp2_with fail
    go_ret
    exact ⟨rfl, HB.out _⟩
  by_cases g2 : (2147483647 : Int) < (yl.length : Int)
  case pos =>
    obtain ⟨Ah, Bh, Ch⟩ := h
    unfold hashV
    clear hT hF hms w1 hss w2 hv hxv hyv gfP ok
    go_enter Tryf.func7, Tryf.ntmps7
    go_wp2_with fail
    refine (HFP.out _ (HB.out _)).mono ?_; rintro e w' ⟨rfl, rfl⟩
    go_wp2_with fail
    go_ret
    exact ⟨rfl, HB.out _⟩
  by_cases g3 : (m : Int) ≤ (s : Int)
  case pos =>
    obtain ⟨Ah, Bh, Ch⟩ := h
    unfold hashV
    clear hT hF hms w1 hss w2 hv hxv hyv gfP ok
    go_enter Tryf.func7, Tryf.ntmps7
    go_wp2_with fail
    refine (HFP.out _ (HB.out _)).mono ?_; rintro e w' ⟨rfl, rfl⟩
    go_wp2_with fail
    go_ret
    exact ⟨rfl, HB.out _⟩
  exact main F h ok m s Av cv P Axv cxv xl Ayv cyv yl w hF hT.handle hT.1 hms hss hv hxv hyv gfP HFP g1 g2 (by omega)
theorem reads (os : Os) {H : Type} (enc : TypeId × Value → H) : ∃ places, DataW.whole enc Tryf.prog ((laidWorldH os).forCall (fun _ _ => 0) ⟨#[], #[.agg #[.int .u32 0, .int .u32 0, .int .u32 0], .int .u64 0, .int .u64 0, .slice none 0 0, .slice none 0 0, .slice none 0 0], []⟩).memory Tryf.f7.params.toList Rows.fnConsistencyOrderSpec.vars false (#[.agg #[.int .u32 0, .int .u32 0, .int .u32 0], .int .u64 0, .int .u64 0, .slice none 0 0, .slice none 0 0, .slice none 0 0] : Array Value).toList 8 = some ([.agg [.lit (.int .u32 0), .lit (.int .u32 0), .lit (.int .u32 0)], .lit (.int .u64 0), .lit (.int .u64 0), .nil, .nil, .nil], [], places) :=
  ⟨[], by kernel_rfl⟩
set_option maxRecDepth 100000 in
theorem contract (F : Stop.Interp) (H : Type) (enc : TypeId × Value → H) (W : World) (base : Nat) (args : Array Value) (ds gs : List (DataW H)) (before : List MemPlace) (hF : F.told.answers W.tape)
    (hval0 : ∀ (j : Nat) t v, Tryf.f7.params[j]? = some t → args[j]? = some v → Value.okWide Tryf.prog W .any base t v)
    (hW : DataW.Whole enc Tryf.prog Tryf.f7.params.toList Rows.fnConsistencyOrderSpec.vars false W args.toList ds gs before) (hL : laidMetH Tryf.prog Rows.fnConsistencyOrderRow.laid W) :
    Calls Tryf.prog 7 args W fun e W' => ∃ v, e = .returned v ∧ ((OpenSpec.ofChange Rows.fnConsistencyOrderSpec).at F.told).post enc Tryf.prog Tryf.f7 false true false false W args v W' := by
  have hval : ∀ (j : Nat) t v, Tryf.f7.params[j]? = some t → args[j]? = some v → Value.okWide Tryf.prog W .any base t v := hval0
  have hW' := hW
  obtain ⟨p, q, hA0, hV, rfl, hfz, hnd⟩ := hW
  have hA : DataW.TrodAll enc Tryf.prog W 0 (fun _ => true) true Tryf.f7.params.toList args.toList ds p := hA0
  rw [Tryf.params7] at hA hval
  obtain ⟨v0, vs0, d0, ds0, p0, q0, hargs, rfl, rfl, h0, r0⟩ := trodAll_cons hA
  obtain ⟨v1, vs1, d1, ds1, p1, q1, rfl, rfl, rfl, h1, r1⟩ := trodAll_cons r0
  obtain ⟨v2, vs2, d2, ds2, p2, q2, rfl, rfl, rfl, h2, r2⟩ := trodAll_cons r1
  obtain ⟨v3, vs3, d3, ds3, p3, q3, rfl, rfl, rfl, h3, r3⟩ := trodAll_cons r2
  obtain ⟨v4, vs4, d4, ds4, p4, q4, rfl, rfl, rfl, h4, r4⟩ := trodAll_cons r3
  obtain ⟨v5, vs5, d5, ds5, p5, q5, rfl, rfl, rfl, h5, r5⟩ := trodAll_cons r4
  obtain ⟨rfl, rfl, rfl⟩ := trodAll_nil r5
  obtain rfl : args = #[v0, v1, v2, v3, v4, v5] := by cases args; simp_all
  obtain ⟨rfl, rfl⟩ := trodVars_none hV
  have k0 := h0
  have lt0 : ∀ x ∈ p0, x.block < W.heap.size := by obtain ⟨m, hm⟩ := k0; exact DataW.trod_lt m _ _ _ hm
  obtain ⟨hh0, rfl, w0⟩ := openHash (hval 0 24 v0 rfl rfl) h0
  have k1 := h1
  have lt1 : ∀ x ∈ p1, x.block < W.heap.size := by obtain ⟨m, hm⟩ := k1; exact DataW.trod_lt m _ _ _ hm
  obtain ⟨a1, rfl, hd1, hp1, w1⟩ := open_int Tryf.underlying28 (hval 1 28 v1 rfl rfl) h1
  have k2 := h2
  have lt2 : ∀ x ∈ p2, x.block < W.heap.size := by obtain ⟨m, hm⟩ := k2; exact DataW.trod_lt m _ _ _ hm
  obtain ⟨a2, rfl, hd2, hp2, w2⟩ := open_int Tryf.underlying28 (hval 2 28 v2 rfl rfl) h2
  have k3 := h3
  have lt3 : ∀ x ∈ p3, x.block < W.heap.size := by obtain ⟨m, hm⟩ := k3; exact DataW.trod_lt m _ _ _ hm
  obtain ⟨L3, w3⟩ := openHashes (hval 3 25 v3 rfl rfl) h3
  have k4 := h4
  have lt4 : ∀ x ∈ p4, x.block < W.heap.size := by obtain ⟨m, hm⟩ := k4; exact DataW.trod_lt m _ _ _ hm
  obtain ⟨L4, w4⟩ := openBytes (hval 4 30 v4 rfl rfl) h4
  have k5 := h5
  have lt5 : ∀ x ∈ p5, x.block < W.heap.size := by obtain ⟨m, hm⟩ := k5; exact DataW.trod_lt m _ _ _ hm
  obtain ⟨L5, w5⟩ := openBytes (hval 5 30 v5 rfl rfl) h5
  refine (walk F.told W hF hh0 w0 a1 (bound_u64 w1) a2 (bound_u64 w2) v3 L3 w3 v4 L4 w4 v5 L5 w5 (laidIsH_of hL)).mono fun e W' ⟨he, bel⟩ => ?_
  subst he
  exact ⟨_, rfl, _, _, _, [], _, [], hW', trodAll_mk1 (shut_bool Tryf.underlying4 _), (trodAll_cons_mk (Below.trod laidOut (by kernel_rfl) (of_decide_eq_true (by kernel_rfl)) k0 bel lt0) (trodAll_cons_mk (Below.trod laidOut (by kernel_rfl) (of_decide_eq_true (by kernel_rfl)) k1 bel lt1) (trodAll_cons_mk (Below.trod laidOut (by kernel_rfl) (of_decide_eq_true (by kernel_rfl)) k2 bel lt2) (trodAll_cons_mk (Below.trod laidOut (by kernel_rfl) (of_decide_eq_true (by kernel_rfl)) k3 bel lt3) (trodAll_cons_mk (Below.trod laidOut (by kernel_rfl) (of_decide_eq_true (by kernel_rfl)) k4 bel lt4) (trodAll_cons_mk (Below.trod laidOut (by kernel_rfl) (of_decide_eq_true (by kernel_rfl)) k5 bel lt5) trodAll_mk0)))))), rfl, bel.frame _, fun h => by cases h⟩
set_option maxRecDepth 100000 in
theorem lifted (os : Os) (started : os.Started) (H : Type) (enc : TypeId × Value → H) :
    ReturnsInTold none {} Tryf.checked os 7 .any Input.okWide ((OpenSpec.ofChange Rows.fnConsistencyOrderSpec).preRow enc Tryf.prog Tryf.f7 Rows.fnConsistencyOrderRow.domain false Rows.fnConsistencyOrderRow.laid) (fun F => ((OpenSpec.ofChange Rows.fnConsistencyOrderSpec).at F).post enc Tryf.prog Tryf.f7 false true false false) (aloneAtReturn Tryf.prog) nothingAlways := by
  obtain ⟨places, hx⟩ := reads os enc
  refine returnsInTold_of_row (C := Tryf.checked) (s := OpenSpec.ofChange Rows.fnConsistencyOrderSpec) mayEnter own started (by kernel_rfl) Tryf.func7
    (OpenSpec.witness_stopped_at (enc := enc) (C := Tryf.checked) false (laidWorldH os) #[.agg #[.int .u32 0, .int .u32 0, .int .u32 0], .int .u64 0, .int .u64 0, .slice none 0 0, .slice none 0 0, .slice none 0 0] rfl (by kernel_rfl) (by kernel_rfl) (by kernel_rfl)
      (OpenSpec.preRow_of_cond 8 hx (by kernel_rfl) (fun k hk => by cases hk) (by kernel_rfl) (laid_metH os #[.agg #[.int .u32 0, .int .u32 0, .int .u32 0], .int .u64 0, .int .u64 0, .slice none 0 0, .slice none 0 0, .slice none 0 0]))) ?_
  intro F W base args ds gs before _ hF hval hW _ _ _ hL _
  exact contract F H enc W base args ds gs before hF hval hW hL
theorem proved : Rows.FnConsistencyOrderToldSaid :=
  Claim7.holds_of_told_tied_any_at .later 7 Tryf.f7 "fmt.errorf" [] [] _ _ _ _ _ (by kernel_rfl) rfl rfl rfl laidOut (by kernel_rfl) rfl ⟨rfl, rfl, rfl, rfl, rfl, rfl, rfl⟩ rfl rfl (by kernel_rfl) (by kernel_rfl) Tryf.func7 (by kernel_rfl)
    (of_decide_eq_true (by kernel_rfl)) (by unfold Func.isWrapper; first | (rw [if_pos (by decide +kernel)]; kernel_rfl) | (rw [if_neg (by decide +kernel)]; exact ⟨rfl, rfl⟩)) stopsAre.symm rfl stopKnobs.symm (by kernel_rfl)
    (by kernel_rfl) (by kernel_rfl) (by kernel_rfl) (by kernel_rfl) (by kernel_rfl) (by kernel_rfl) (by kernel_rfl) (by kernel_rfl) (by kernel_rfl) rfl (by kernel_rfl) rfl rfl
    rfl rfl
    rfl mainIs (by kernel_rfl) (by kernel_rfl) (by decide) (by kernel_rfl) fnConsistencyOrder_row_tie
    (OpenClaim.moreEntering_of mayEnter (by kernel_rfl) (by kernel_rfl) (by kernel_rfl) (by kernel_rfl) (by kernel_rfl) (by kernel_rfl) (by kernel_rfl) liftsFinal.symm make)
    ⟨_, WideRow.started_initial, quiet _⟩
    (fun os started _ H enc _ => lifted os started H enc)
end Go.Proofs.YteilafhajhbdaaaFmt.fnConsistencyOrder
