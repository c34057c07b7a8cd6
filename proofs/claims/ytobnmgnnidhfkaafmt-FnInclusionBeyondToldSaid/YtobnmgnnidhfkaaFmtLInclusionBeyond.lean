/- An index that is not in the tree is an error. -/
import Derived.Test.YtobnmgnnidhfkaaFmtVerErr
import Derived.Test.YtobnmgnnidhfkaaFmtFits
import Derived.Test.YtobnmgnnidhfkaaFmtOpenH
namespace Go.Proofs.YtobnmgnnidhfkaaFmt.fnInclusionBeyond
open Go.ChangeShapes Go.WideShapes Go.ChangeAt Go.RowKit
set_option maxRecDepth 100000
theorem keep1 {w W w' : World} (h : Below w.heap.size w W) (hb : Below W.heap.size W w') : Below w.heap.size w w' := h.trans (hb.mono h.size)
theorem fmtBounds : Fmt2 ⟨#[105, 110, 100, 101, 120, 32, 37, 100, 32, 111, 117, 116, 32, 111, 102, 32, 98, 111, 117, 110, 100, 115, 32, 102, 111, 114, 32, 116, 114, 101, 101, 32, 115, 105, 122, 101, 32, 37, 100]⟩ := ⟨by kernel_rfl, fun w => by kernel_rfl⟩
theorem incl_err (F : Stop.Interp) (i s : Nat) (w : World) (hF : F.answers w.tape) (hm : s ≤ i) : Calls Tryf.prog 21 #[.int .u64 (i : Int), .int .u64 (s : Int)] w fun e w' => ∃ g, e = .returned (.tuple #[.agg #[.slice none 0 0, .int .i64 0, .int .i64 0, .int .u64 0, .int .u64 0], .iface 137 (.pointer (some ⟨g, 0, none⟩))]) ∧ Below w.heap.size w w' := by
  have HF := Lib.hid (fun (W : World) (hb : Below w.heap.size w W) => ans_below hF hb)
  have hg : (s : Int) ≤ (i : Int) := by omega
  have hg1 : decide (s ≤ i) = true := decide_eq_true hm
  clear hF hm
  go_enter Tryf.func21, Tryf.ntmps21
  go_wp2_with fail
  have B1 := ((Below.refl w.heap.size w).alloc (Nat.le_refl _) (.cells #[.slice none 0 0, .int .i64 0, .int .i64 0, .int .u64 0, .int .u64 0] 62)).alloc (by simp) (.cells #[.iface 25 (.int .u64 (i : Int)), .iface 25 (.int .u64 (s : Int))] 20)
  refine (errorf_uu F _ fmtBounds (i : Int) (s : Int) (w.heap.size + 1) _ (HF.out _ B1) (by simp) (by simp)).mono ?_
  rintro r w1 ⟨⟨g, rfl⟩, hb⟩
  have B2 := B1.trans (hb.mono B1.size)
  have K := ((Blk.new w 62 #[.slice none 0 0, .int .i64 0, .int .i64 0, .int .u64 0, .int .u64 0]).alloc (.cells #[.iface 25 (.int .u64 (i : Int)), .iface 25 (.int .u64 (s : Int))] 20)).below' hb
  have hlt := K.lt
  obtain ⟨c1, c2, c3, c4, c5, f1, f2, f3, f4, f5⟩ := K.five
  clear hb B1 K
  go_wp2_with fail
  exact bodyPost_ret (v := .tuple #[.agg #[.slice none 0 0, .int .i64 0, .int .i64 0, .int .u64 0, .int .u64 0], .iface 137 (.pointer (some ⟨g, 0, none⟩))]) (by simp [results, Tryf.results21, go_sem, c1, c2, c3, c4, c5]) rfl
    ⟨g, rfl, ((((B2.setCell (p := ⟨w.heap.size, 0, none⟩) (Nat.le_refl _) _).setCell (p := ⟨w.heap.size, 1, none⟩) (Nat.le_refl _) _).setCell (p := ⟨w.heap.size, 2, none⟩) (Nat.le_refl _) _).setCell (p := ⟨w.heap.size, 3, none⟩) (Nat.le_refl _) _).setCell (p := ⟨w.heap.size, 4, none⟩) (Nat.le_refl _) _⟩
theorem implIncl_err (F : Stop.Interp) (i s : Nat) (w : World) (hF : F.answers w.tape) (hm : s ≤ i) : Calls Tryf.prog 9 #[.int .u64 (i : Int), .int .u64 (s : Int)] w fun e w' => e = .returned (.tuple #[.agg #[.slice none 0 0, .int .u64 0, .int .u64 0, .int .i64 0, .int .i64 0], .bool false]) ∧ Below w.heap.size w w' := by
  have HE := Lib.hid (fun (W : World) (hb : Below w.heap.size w W) => incl_err F i s W (ans_below hF hb) hm)
  clear hF hm
  go_enter Tryf.func9, Tryf.ntmps9
  go_wp2_with fail
  have B0 := (Below.refl w.heap.size w).alloc (Nat.le_refl _) (.cells #[.slice none 0 0, .int .u64 0, .int .u64 0, .int .i64 0, .int .i64 0] 36)
  refine (HE.out _ B0).mono ?_
  rintro r w1 ⟨g, rfl, hb⟩
  have B1 := B0.trans (hb.mono B0.size)
  have K := (Blk.new w 36 #[.slice none 0 0, .int .u64 0, .int .u64 0, .int .i64 0, .int .i64 0]).below' hb
  have hlt := K.lt
  obtain ⟨c1, c2, c3, c4, c5, f1, f2, f3, f4, f5⟩ := K.five
  have K5 := Lib.hid (show Blk (((((w1.setCell ⟨w.heap.size, 0, none⟩ (.slice none 0 0)).setCell ⟨w.heap.size, 1, none⟩ (.int .u64 0)).setCell ⟨w.heap.size, 2, none⟩ (.int .u64 0)).setCell ⟨w.heap.size, 3, none⟩ (.int .i64 0)).setCell ⟨w.heap.size, 4, none⟩ (.int .i64 0)) w.heap.size 36 #[.slice none 0 0, .int .u64 0, .int .u64 0, .int .i64 0, .int .i64 0] from ((((K.set_ 0 _).set_ 1 _).set_ 2 _).set_ 3 _).set_ 4 _)
  clear hb B0 K
  go_wp2_with fail
  have B5 := ((((B1.setCell (p := ⟨w.heap.size, 0, none⟩) (Nat.le_refl _) (.slice none 0 0)).setCell (p := ⟨w.heap.size, 1, none⟩) (Nat.le_refl _) (.int .u64 0)).setCell (p := ⟨w.heap.size, 2, none⟩) (Nat.le_refl _) (.int .u64 0)).setCell (p := ⟨w.heap.size, 3, none⟩) (Nat.le_refl _) (.int .i64 0)).setCell (p := ⟨w.heap.size, 4, none⟩) (Nat.le_refl _) (.int .i64 0)
  have K6 := K5.out.alloc (.cells #[.slice none 0 0, .int .i64 0, .int .i64 0, .int .u64 0, .int .u64 0] 62)
  obtain ⟨d1, d2, d3, d4, d5, _⟩ := K6.five
  exact bodyPost_ret (v := .tuple #[.agg #[.slice none 0 0, .int .u64 0, .int .u64 0, .int .i64 0, .int .i64 0], .bool false]) (by simp [results, Tryf.results9, go_sem, d1, d2, d3, d4, d5]) rfl
    ⟨rfl, B5.alloc B5.size _⟩
set_option maxHeartbeats 2000000 in
theorem main (F : Stop.Interp) (h : Pl.HF) (_ok : h.ok) (i : Nat) (s : Nat) (Alv : Option Addr) (clv : Nat) (ll : List Nat) (Av : Option Addr) (cv : Nat) (P : List (List Nat)) (Arv : Option Addr) (crv : Nat) (rl : List Nat) (w : World) (hF : F.answers w.tape) (hH : Handle w) (his : i < 18446744073709551616) (hss : s < 18446744073709551616) (hlv : BytesR w (.slice Alv ll.length clv) ll) (hv : HashesR w (.slice Av P.length cv) P) (hrv : BytesR w (.slice Arv rl.length crv) rl) (_zll : ¬ (2147483647 : Int) < (ll.length : Int)) (gfP : Fits P) (HFP : Hid (∀ W, Below w.heap.size w W → Calls Tryf.prog 7 #[.slice Av P.length cv] W fun e w' => e = .returned (.bool true) ∧ W = w')) (_zrl : ¬ (2147483647 : Int) < (rl.length : Int)) (hge : s ≤ i) :
    Calls Tryf.prog 3 #[hashV h, .int .u64 (i : Int), .int .u64 (s : Int), .slice Alv ll.length clv, .slice Av P.length cv, .slice Arv rl.length crv] w fun e w' => e = .returned (.bool true) ∧ Below w.heap.size w w' := by
  have HB := Lib.hid (fun C => (Below.refl w.heap.size w).alloc (Nat.le_refl _) (.cells C 24))
  have HPr := Lib.hid (fun (W : World) (hb : Below w.heap.size w W) => proves_c W (hH.below hb))
  have hd1 : decide (i < s) = false := decide_eq_false (by omega)
  have hlt : ¬ (i : Int) < (s : Int) := by omega
  have HR := Lib.hid (fun (W : World) (hb : Below w.heap.size w W) => rootI_err F h i s his hss _ _ ll P W (ans_below hF hb) (hlv.below hb) (hv.below hb) gfP (.inl hge))
  have HI := Lib.hid (fun (W : World) (hb : Below w.heap.size w W) => implIncl_err F i s W (ans_below hF hb) hge)
  have HV := Lib.hid (fun (W : World) (hb : Below w.heap.size w W) => verI_err F h i s his hss _ _ _ ll rl P W (ans_below hF hb) (hlv.below hb) (hv.below hb) (hrv.below hb) gfP (hH.below hb) (.inl hge))
  clear hF hH hlv hv hrv gfP _ok hge his hss
  generalize P.length = np at *
  generalize ll.length = nl at *
  generalize rl.length = nr at *
  obtain ⟨Ah, Bh, Ch⟩ := h
  unfold hashV at HR HV ⊢
  simp only [] at HR HV ⊢
  go_enter Tryf.func3, Tryf.ntmps3
  go_wp2_with fail
  refine (HFP.out _ (HB.out _)).mono ?_; rintro e w' ⟨rfl, rfl⟩
  go_wp2_with fail
  refine (HR.out _ (HB.out _)).mono ?_; rintro e w1 ⟨v1, rfl, hv1, hb1⟩
  have B1 := keep1 (HB.out _) hb1
  have K1 : Blk w1 w.heap.size 24 #[.int .u32 (Ah : Int), .int .u32 (Bh : Int), .int .u32 (Ch : Int)] := (Blk.new w _ _).below' hb1
  obtain ⟨A1, n1, k1, rfl⟩ := hv1.form
  clear hb1 hv1
  go_wp2_with fail
  refine (HI.out _ B1).mono ?_; rintro e w2 ⟨rfl, hb2⟩
  have B2 := keep1 B1 hb2
  have K2 := K1.below' hb2
  obtain ⟨c1, c2, c3, _⟩ := K2.three
  have hww := K2.lt
  clear hb2 K1 K2
  go_wp2_with fail
  have B2' := B2.alloc B2.size (.cells #[.slice none 0 0, .int .u64 0, .int .u64 0, .int .i64 0, .int .i64 0] 36)
  first | refine (HV.out _ B2).mono ?_ | refine (HV.out _ B2').mono ?_
  rintro e w3 ⟨rfl, hb3⟩
  have B3 : Below w.heap.size w w3 := by first | exact keep1 B2 hb3 | exact keep1 B2' hb3
  clear hb3 c1 c2 c3
  go_wp2_with fail
  refine (HPr.out _ B3).mono ?_; rintro e w4 ⟨rfl, hb4⟩
  have B4 := keep1 B3 hb4
  clear hb4
  go_wp2_with fail
  go_ret
  exact ⟨by first | rfl | (simp <;> omega), B4⟩
set_option maxHeartbeats 2000000 in
theorem walk (F : Stop.Interp) (w : World) (hF : F.answers w.tape) (h : Pl.HF) (ok : h.ok) (a1 : Int) (w1 : 0 ≤ a1 ∧ a1 < 18446744073709551616) (a2 : Int) (w2 : 0 ≤ a2 ∧ a2 < 18446744073709551616) (lv : Value) (ll : List Nat) (hlv : BytesR w lv ll) (v : Value) (P : List (List Nat)) (hv : HashesR w v P) (rv : Value) (rl : List Nat) (hrv : BytesR w rv rl) (hT : LaidIsH w) :
    Calls Tryf.prog 3 #[hashV h, .int .u64 a1, .int .u64 a2, lv, v, rv] w fun e w' => e = .returned (.bool true) ∧ Below w.heap.size w w' := by
  obtain ⟨i, rfl⟩ := Int.eq_ofNat_of_zero_le w1.1
  have his : i < 18446744073709551616 := by omega
  obtain ⟨s, rfl⟩ := Int.eq_ofNat_of_zero_le w2.1
  have hss : s < 18446744073709551616 := by omega
  have HB := Lib.hid (fun C => (Below.refl w.heap.size w).alloc (Nat.le_refl _) (.cells C 24))
  obtain ⟨Alv, clv, elv, h9lv⟩ := id hlv
  clear h9lv
  obtain ⟨Av, cv, ev, h9v⟩ := id hv
  clear h9v
  obtain ⟨Arv, crv, erv, h9rv⟩ := id hrv
  clear h9rv
  subst elv
  subst ev
  subst erv
  by_cases g0 : (2147483647 : Int) < (ll.length : Int)
  case pos =>
    obtain ⟨Ah, Bh, Ch⟩ := h
    unfold hashV
    clear hT hF his w1 hss w2 hlv hv hrv ok
    go_enter Tryf.func3, Tryf.ntmps3
    go_wp2_with fail
    go_ret
    exact ⟨rfl, HB.out _⟩
  by_cases g1 : ¬ Fits P
  case pos =>
    have HFx : Hid (∀ W, Below w.heap.size w W → Calls Tryf.prog 7 #[.slice Av P.length cv] W fun e w' => e = .returned (.bool false) ∧ W = w') := Lib.hid (fun W hb => (fits1_c (.slice Av P.length cv) P W (hv.below hb)).mono fun _ _ r => r.no g1)
    obtain ⟨Ah, Bh, Ch⟩ := h
    unfold hashV
    clear hT hF his w1 hss w2 hlv hv hrv g1 ok
    go_enter Tryf.func3, Tryf.ntmps3
    go_wp2_with fail
    refine (HFx.out _ (HB.out _)).mono ?_; rintro e w' ⟨rfl, rfl⟩
    go_wp2_with fail
    go_ret
    exact ⟨rfl, HB.out _⟩
  have gfP : Fits P := Classical.not_not.1 g1
  clear g1
  have HFP : Hid (∀ W, Below w.heap.size w W → Calls Tryf.prog 7 #[.slice Av P.length cv] W fun e w' => e = .returned (.bool true) ∧ W = w') := Lib.hid (fun W hb => (fits1_c (.slice Av P.length cv) P W (hv.below hb)).mono fun _ _ r => r.yes gfP)
  by_cases g2 : (2147483647 : Int) < (rl.length : Int)
  case pos =>
    obtain ⟨Ah, Bh, Ch⟩ := h
    unfold hashV
    clear hT hF his w1 hss w2 hlv hv hrv gfP ok
    go_enter Tryf.func3, Tryf.ntmps3
    go_wp2_with fail
    refine (HFP.out _ (HB.out _)).mono ?_; rintro e w' ⟨rfl, rfl⟩
    go_wp2_with fail
    go_ret
    exact ⟨rfl, HB.out _⟩
  by_cases g3 : (i : Int) < (s : Int)
  case pos =>
    obtain ⟨Ah, Bh, Ch⟩ := h
    unfold hashV
    clear hT hF his w1 hss w2 hlv hv hrv gfP ok
    go_enter Tryf.func3, Tryf.ntmps3
    go_wp2_with fail
    refine (HFP.out _ (HB.out _)).mono ?_; rintro e w' ⟨rfl, rfl⟩
    go_wp2_with fail
    go_ret
    exact ⟨rfl, HB.out _⟩
  exact main F h ok i s Alv clv ll Av cv P Arv crv rl w hF hT.handle his hss hlv hv hrv g0 gfP HFP g2 (by omega)
theorem reads (os : Os) {H : Type} (enc : TypeId × Value → H) : ∃ places, DataW.whole enc Tryf.prog ((laidWorldH os).forCall (fun _ _ => 0) ⟨#[], #[.agg #[.int .u32 0, .int .u32 0, .int .u32 0], .int .u64 0, .int .u64 0, .slice none 0 0, .slice none 0 0, .slice none 0 0], []⟩).memory Tryf.f3.params.toList Rows.fnInclusionBeyondSpec.vars false (#[.agg #[.int .u32 0, .int .u32 0, .int .u32 0], .int .u64 0, .int .u64 0, .slice none 0 0, .slice none 0 0, .slice none 0 0] : Array Value).toList 8 = some ([.agg [.lit (.int .u32 0), .lit (.int .u32 0), .lit (.int .u32 0)], .lit (.int .u64 0), .lit (.int .u64 0), .nil, .nil, .nil], [], places) :=
  ⟨[], by kernel_rfl⟩
set_option maxRecDepth 100000 in
theorem contract (F : Stop.Interp) (H : Type) (enc : TypeId × Value → H) (W : World) (base : Nat) (args : Array Value) (ds gs : List (DataW H)) (before : List MemPlace) (hF : F.told.answers W.tape)
    (hval0 : ∀ (j : Nat) t v, Tryf.f3.params[j]? = some t → args[j]? = some v → Value.okWide Tryf.prog W .any base t v)
    (hW : DataW.Whole enc Tryf.prog Tryf.f3.params.toList Rows.fnInclusionBeyondSpec.vars false W args.toList ds gs before) (hL : laidMetH Tryf.prog Rows.fnInclusionBeyondRow.laid W) :
    Calls Tryf.prog 3 args W fun e W' => ∃ v, e = .returned v ∧ ((OpenSpec.ofChange Rows.fnInclusionBeyondSpec).at F.told).post enc Tryf.prog Tryf.f3 false true false false W args v W' := by
  have hval : ∀ (j : Nat) t v, Tryf.f3.params[j]? = some t → args[j]? = some v → Value.okWide Tryf.prog W .any base t v := hval0
  have hW' := hW
  obtain ⟨p, q, hA0, hV, rfl, hfz, hnd⟩ := hW
  have hA : DataW.TrodAll enc Tryf.prog W 0 (fun _ => true) true Tryf.f3.params.toList args.toList ds p := hA0
  rw [Tryf.params3] at hA hval
  obtain ⟨v0, vs0, d0, ds0, p0, q0, hargs, rfl, rfl, h0, r0⟩ := trodAll_cons hA
  obtain ⟨v1, vs1, d1, ds1, p1, q1, rfl, rfl, rfl, h1, r1⟩ := trodAll_cons r0
  obtain ⟨v2, vs2, d2, ds2, p2, q2, rfl, rfl, rfl, h2, r2⟩ := trodAll_cons r1
  obtain ⟨v3, vs3, d3, ds3, p3, q3, rfl, rfl, rfl, h3, r3⟩ := trodAll_cons r2
  obtain ⟨v4, vs4, d4, ds4, p4, q4, rfl, rfl, rfl, h4, r4⟩ := trodAll_cons r3
  obtain ⟨v5, vs5, d5, ds5, p5, q5, rfl, rfl, rfl, h5, r5⟩ := trodAll_cons r4
  obtain ⟨rfl, rfl, rfl⟩ := trodAll_nil r5
  obtain rfl : args = #[v0, v1, v2, v3, v4, v5] := by cases args; simp_all
  obtain ⟨rfl, rfl⟩ := trodVars_none hV
  have k0 := h0
  have lt0 : ∀ x ∈ p0, x.block < W.heap.size := by obtain ⟨m, hm⟩ := k0; exact DataW.trod_lt m _ _ _ hm
  obtain ⟨hh0, rfl, w0⟩ := openHash (hval 0 24 v0 rfl rfl) h0
  have k1 := h1
  have lt1 : ∀ x ∈ p1, x.block < W.heap.size := by obtain ⟨m, hm⟩ := k1; exact DataW.trod_lt m _ _ _ hm
  obtain ⟨a1, rfl, hd1, hp1, w1⟩ := open_int Tryf.underlying25 (hval 1 25 v1 rfl rfl) h1
  have k2 := h2
  have lt2 : ∀ x ∈ p2, x.block < W.heap.size := by obtain ⟨m, hm⟩ := k2; exact DataW.trod_lt m _ _ _ hm
  obtain ⟨a2, rfl, hd2, hp2, w2⟩ := open_int Tryf.underlying25 (hval 2 25 v2 rfl rfl) h2
  have k3 := h3
  have lt3 : ∀ x ∈ p3, x.block < W.heap.size := by obtain ⟨m, hm⟩ := k3; exact DataW.trod_lt m _ _ _ hm
  obtain ⟨L3, w3⟩ := openBytes (hval 3 26 v3 rfl rfl) h3
  have k4 := h4
  have lt4 : ∀ x ∈ p4, x.block < W.heap.size := by obtain ⟨m, hm⟩ := k4; exact DataW.trod_lt m _ _ _ hm
  obtain ⟨L4, w4⟩ := openHashes (hval 4 27 v4 rfl rfl) h4
  have k5 := h5
  have lt5 : ∀ x ∈ p5, x.block < W.heap.size := by obtain ⟨m, hm⟩ := k5; exact DataW.trod_lt m _ _ _ hm
  obtain ⟨L5, w5⟩ := openBytes (hval 5 26 v5 rfl rfl) h5
  refine (walk F.told W hF hh0 w0 a1 (bound_u64 w1) a2 (bound_u64 w2) v3 L3 w3 v4 L4 w4 v5 L5 w5 (laidIsH_of hL)).mono fun e W' ⟨he, bel⟩ => ?_
  subst he
  exact ⟨_, rfl, _, _, _, [], _, [], hW', trodAll_mk1 (shut_bool Tryf.underlying4 _), (trodAll_cons_mk (Below.trod laidOut (by kernel_rfl) (of_decide_eq_true (by kernel_rfl)) k0 bel lt0) (trodAll_cons_mk (Below.trod laidOut (by kernel_rfl) (of_decide_eq_true (by kernel_rfl)) k1 bel lt1) (trodAll_cons_mk (Below.trod laidOut (by kernel_rfl) (of_decide_eq_true (by kernel_rfl)) k2 bel lt2) (trodAll_cons_mk (Below.trod laidOut (by kernel_rfl) (of_decide_eq_true (by kernel_rfl)) k3 bel lt3) (trodAll_cons_mk (Below.trod laidOut (by kernel_rfl) (of_decide_eq_true (by kernel_rfl)) k4 bel lt4) (trodAll_cons_mk (Below.trod laidOut (by kernel_rfl) (of_decide_eq_true (by kernel_rfl)) k5 bel lt5) trodAll_mk0)))))), rfl, bel.frame _, fun h => by cases h⟩
set_option maxRecDepth 100000 in
theorem lifted (os : Os) (started : os.Started) (H : Type) (enc : TypeId × Value → H) :
    ReturnsInTold none {} Tryf.checked os 3 .any Input.okWide ((OpenSpec.ofChange Rows.fnInclusionBeyondSpec).preRow enc Tryf.prog Tryf.f3 Rows.fnInclusionBeyondRow.domain false Rows.fnInclusionBeyondRow.laid) (fun F => ((OpenSpec.ofChange Rows.fnInclusionBeyondSpec).at F).post enc Tryf.prog Tryf.f3 false true false false) (aloneAtReturn Tryf.prog) nothingAlways := by
  obtain ⟨places, hx⟩ := reads os enc
  refine returnsInTold_of_row (C := Tryf.checked) (s := OpenSpec.ofChange Rows.fnInclusionBeyondSpec) mayEnter own started (by kernel_rfl) Tryf.func3
    (OpenSpec.witness_stopped_at (enc := enc) (C := Tryf.checked) false (laidWorldH os) #[.agg #[.int .u32 0, .int .u32 0, .int .u32 0], .int .u64 0, .int .u64 0, .slice none 0 0, .slice none 0 0, .slice none 0 0] rfl (by kernel_rfl) (by kernel_rfl) (by kernel_rfl)
      (OpenSpec.preRow_of_cond 8 hx (by kernel_rfl) (fun k hk => by cases hk) (by kernel_rfl) (laid_metH os #[.agg #[.int .u32 0, .int .u32 0, .int .u32 0], .int .u64 0, .int .u64 0, .slice none 0 0, .slice none 0 0, .slice none 0 0]))) ?_
  intro F W base args ds gs before _ hF hval hW _ _ _ hL _
  exact contract F H enc W base args ds gs before hF hval hW hL
theorem proved : Rows.FnInclusionBeyondToldSaid :=
  Claim7.holds_of_told_tied_any_at .later 3 Tryf.f3 "fmt.errorf" [] [] _ _ _ _ _ (by kernel_rfl) rfl rfl rfl laidOut (by kernel_rfl) rfl ⟨rfl, rfl, rfl, rfl, rfl, rfl, rfl⟩ rfl rfl (by kernel_rfl) (by kernel_rfl) Tryf.func3 (by kernel_rfl)
    (of_decide_eq_true (by kernel_rfl)) (by unfold Func.isWrapper; first | (rw [if_pos (by decide +kernel)]; kernel_rfl) | (rw [if_neg (by decide +kernel)]; exact ⟨rfl, rfl⟩)) stopsAre.symm rfl stopKnobs.symm (by kernel_rfl)
    (by kernel_rfl) (by kernel_rfl) (by kernel_rfl) (by kernel_rfl) (by kernel_rfl) (by kernel_rfl) (by kernel_rfl) (by kernel_rfl) (by kernel_rfl) rfl (by kernel_rfl) rfl rfl
    rfl rfl
    rfl mainIs (by kernel_rfl) (by kernel_rfl) (by decide) (by kernel_rfl) fnInclusionBeyond_row_tie
    (OpenClaim.moreEntering_of mayEnter (by kernel_rfl) (by kernel_rfl) (by kernel_rfl) (by kernel_rfl) (by kernel_rfl) (by kernel_rfl) (by kernel_rfl) liftsFinal.symm make)
    ⟨_, WideRow.started_initial, quiet _⟩
    (fun os started _ H enc _ => lifted os started H enc)
end Go.Proofs.YtobnmgnnidhfkaaFmt.fnInclusionBeyond
