/- The root of a growing range is the root against which all proofs of its leaves are right. -/
import Derived.Test.YtobnmgnnidhfkaaFmtImplApp
import Derived.Test.YtobnmgnnidhfkaaFmtImplVer
import Derived.Test.YtobnmgnnidhfkaaFmtPathW
import Derived.Test.YtobnmgnnidhfkaaFmtFits
import Derived.Test.YtobnmgnnidhfkaaFmtOpenH
namespace Go.Proofs.YtobnmgnnidhfkaaFmt.fnRangeProof
open Go.ChangeShapes Go.WideShapes Go.ChangeAt Go.RowKit
set_option maxRecDepth 100000
theorem keep1 {w W w' : World} (h : Below w.heap.size w W) (hb : Below W.heap.size W w') : Below w.heap.size w w' := h.trans (hb.mono h.size)
theorem chain_path (h : Pl.HF) (L : List (List Nat)) (i : Nat) (hi : i < L.length) : Pl.chain h (L[i]) ((Pl.dirs i L.length).zip (Pl.pathL h i L)) = Pl.mth h L := by
  have := Pl.chain_sides h (Pl.atL L) i L.length 0 hi
  unfold Pl.mth
  rw [← this]
  unfold Pl.pathL Pl.hl Pl.atL
  rw [Nat.zero_add, List.getD_eq_getElem?_getD, List.getElem?_eq_getElem hi]
  rfl
abbrev SC (w : World) (g3 : Nat) (x1 x2 x3 v lv ev rv : Value) (ad : Addr) (ll R : List Nat) (L : List (List Nat)) (w' : World) : Prop := w'.cell? ⟨w.heap.size, 0, none⟩ = some x1 ∧ w'.cell? ⟨w.heap.size, 1, none⟩ = some x2 ∧ w'.cell? ⟨w.heap.size, 2, none⟩ = some x3 ∧ w'.cell? ad = some lv ∧ w'.cell? ⟨g3, 1, none⟩ = some ev ∧ w'.cell? ⟨g3, 3, none⟩ = some rv ∧ BytesR w' lv ll ∧ BytesR w' rv R ∧ HashesR w' v L ∧ Handle w' ∧ Below w.heap.size w w'
theorem keepC {w W w' : World} {g3 : Nat} {x1 x2 x3 v lv ev rv : Value} {ad : Addr} {ll R : List Nat} {L : List (List Nat)} (hb : Below W.heap.size W w') (h : SC w g3 x1 x2 x3 v lv ev rv ad ll R L W) : SC w g3 x1 x2 x3 v lv ev rv ad ll R L w' :=
  have up : ∀ {p : Addr} {v : Value}, W.cell? p = some v → w'.cell? p = some v := fun {p} {_} h => (hb.cell (World.block_lt_of_cell? W p h)).trans h
  ⟨up h.1, up h.2.1, up h.2.2.1, up h.2.2.2.1, up h.2.2.2.2.1, up h.2.2.2.2.2.1, h.2.2.2.2.2.2.1.below hb, h.2.2.2.2.2.2.2.1.below hb, h.2.2.2.2.2.2.2.2.1.below hb, h.2.2.2.2.2.2.2.2.2.1.below hb, h.2.2.2.2.2.2.2.2.2.2.trans (hb.mono h.2.2.2.2.2.2.2.2.2.2.size)⟩
set_option maxHeartbeats 2000000 in
theorem main (F : Stop.Interp) (h : Pl.HF) (ok : h.ok) (idx : Int) (Av : Option Addr) (cv : Nat) (P : List (List Nat)) (w : World) (_hF : F.answers w.tape) (hT : Tab w) (hH : Handle w) (hv : HashesR w (.slice Av P.length cv) P) (_gfP : Fits P) (HFP : Hid (∀ W, Below w.heap.size w W → Calls Tryf.prog 7 #[.slice Av P.length cv] W fun e w' => e = .returned (.bool true) ∧ W = w')) (geP : IsLeaves P) (HEP : Hid (∀ W, Below w.heap.size w W → Calls Tryf.prog 12 #[.slice Av P.length cv] W fun e w' => e = .returned (.bool true) ∧ W = w')) (h0 : 0 ≤ idx) (h1 : idx < (P.length : Int)) :
    Calls Tryf.prog 4 #[hashV h, .int .i64 (idx : Int), .slice Av P.length cv] w fun e w' => e = .returned (.bool true) ∧ Below w.heap.size w w' := by
  obtain ⟨i, rfl⟩ := Int.eq_ofNat_of_zero_le h0
  have hi : i < P.length := by omega
  obtain ⟨l1, l2, l3⟩ := geP
  have HB := Lib.hid (fun C => (Below.refl w.heap.size w).alloc (Nat.le_refl _) (.cells C 24))
  obtain ⟨g, o, Al, cl, rfl, hcl, hlb⟩ := hv.at i hi
  have hl2 : (P[i]).length = 2 := l1 _ (List.getElem_mem hi)
  have HP := Lib.hid (fun (W : World) (hu : HashesR W (.slice (some ⟨g, o, none⟩) P.length cv) P) => path_c h ok P.length (.slice (some ⟨g, o, none⟩) P.length cv) P i W rfl (by omega) (by omega) hi hu)
  have HAP := Lib.hid (fun W (hW : Below w.heap.size w W) => append_d F h ok 0 (.slice (some ⟨g, o, none⟩) P.length cv) P W (ans_below _hF hW) (hv.below hW) l1 (by omega) (by omega) (hT.below hW))
  have HRM := Lib.hid (rootAt_mth h P (by omega) (by omega))
  have hpl := path_len h i P hi (by omega)
  have hch := chain_path h P i hi
  have hfp : Fits (Pl.pathL h i P) := ⟨by omega, fun x hx => by
    unfold Pl.pathL Pl.hl at hx
    obtain ⟨p, hp, rfl⟩ := List.mem_map.1 hx
    have hs := Pl.sides_in i P.length 0 hi p hp
    by_cases h2 : 2 ≤ p.2
    · rw [Pl.mr_two _ _ _ _ h2]; exact (by decide : (2 : Nat) ≤ 2147483647)
    · obtain ⟨pa, pn⟩ := p
      obtain rfl : pn = 1 := by simp at hs h2; omega
      simp only [] at hs ⊢
      rw [Pl.mr_one]
      unfold Pl.atL
      rw [List.getD_eq_getElem?_getD, List.getElem?_eq_getElem (by omega)]
      exact Nat.le_trans (Nat.le_of_eq (l1 _ (List.getElem_mem _))) (by decide)⟩
  have HV := Lib.hid (fun (W : World) (pv rv : Value) (h1 : BytesR W (.slice Al (P[i]).length cl) P[i]) (h2 : HashesR W pv (Pl.pathL h i P)) (h3 : BytesR W rv (Pl.mth h P)) (h4 : Handle W) => verI_yes h ok i P.length hi (by omega) _ pv rv P[i] (Pl.mth h P) (Pl.pathL h i P) W hl2 h1 h2 h3 (by rw [Pl.pathL_length]) hfp h4 hch)
  have HS0 := Lib.hid (fun (W : World) (hb : Below w.heap.size w W) => show W.cell? ⟨g, o + i, none⟩ = some (.slice Al (P[i]).length cl) ∧ BytesR W (.slice Al (P[i]).length cl) P[i] ∧ HashesR W (.slice (some ⟨g, o, none⟩) P.length cv) P ∧ Handle W from ⟨(hb.cell (World.block_lt_of_cell? w _ hcl)).trans hcl, hlb.below hb, hv.below hb, hH.below hb⟩)
  have e1 : IntKind.u64.wrap (i : Int) = (i : Int) := wrapN i (by omega)
  have e2 : IntKind.u64.wrap ((P.length : Nat) : Int) = ((P.length : Nat) : Int) := wrapN _ (by omega)
  have h1' : (i : Int) < ((P.length : Nat) : Int) := by omega
  have h0' : (0 : Int) ≤ (i : Int) := by omega
  have hn200 : ((P.length : Nat) : Int) ≤ 200 := by omega
  have hgi : g < w.heap.size := World.block_lt_of_cell? w _ hcl
  generalize Pl.pathL h i P = pth at *
  generalize hmt : Pl.mth h P = rt at *
  clear hmt
  clear _hF hH hv _gfP l1 l2 l3 h0 h1 hcl hlb hpl hch hfp hl2 hT
  generalize P[i] = ll at *
  generalize ll.length = nl at *
  generalize hnn : P.length = n at *
  clear hnn hi ok
  obtain ⟨Ah, Bh, Ch⟩ := h
  unfold hashV at HP HV ⊢
  simp only [] at HP HV ⊢
  go_enter Tryf.func4, Tryf.ntmps4
  go_wp2_with fail
  refine (HFP.out _ (HB.out _)).mono ?_; rintro e w' ⟨rfl, rfl⟩
  go_wp2_with fail
  refine (HEP.out _ (HB.out _)).mono ?_; rintro e w' ⟨rfl, rfl⟩
  go_wp2_with fail
  refine (HAP.out _ (HB.out _)).mono ?_; rintro r w3 ⟨A2, Ar, A6, A7, c2, nr, cr, c6, c7, nH, nG, nE, e, kb, H, R, G, E, rfl, HEQ, HK, hb3⟩
  have HKH : Hid (Blk w3 w.heap.size 24 #[.int .u32 (Ah : Int), .int .u32 (Bh : Int), .int .u32 (Ch : Int)]) := Lib.hid ((Blk.new w _ _).below' hb3)
  have HB3 := Lib.hid ((HB.out _).trans (hb3.mono (HB.out _).size))
  clear hb3
  obtain rfl : e = n := by rw [HEQ.out.1]; exact Nat.zero_add _
  obtain rfl : R = rt := by
    have h1 := HEQ.out.2.2.2.1
    rw [HEQ.out.2.2.1] at h1
    rw [h1, HRM.out]
  clear HRM
  go_wp2_with fail
  have BA : Below w3.heap.size w3 (w3.alloc (.cells #[.int .u64 0, .int .u64 (e : Int), .slice A2 nH c2, .slice Ar nr cr, .bool kb, .slice A6 nG c6, .slice A7 nE c7] 44)).drew := ((Below.refl _ _).alloc (Nat.le_refl _) _).drew
  have hKH := HKH.out.below' BA
  have hKR := (Blk.new w3 44 #[.int .u64 0, .int .u64 (e : Int), .slice A2 nH c2, .slice Ar nr cr, .bool kb, .slice A6 nG c6, .slice A7 nE c7]).drew
  have BW := HB3.out.trans (BA.mono HB3.out.size)
  obtain ⟨z1, z2, z3, z4⟩ := HS0.out _ BW
  have S0 : SC w w3.heap.size (.int .u32 (Ah : Int)) (.int .u32 (Bh : Int)) (.int .u32 (Ch : Int)) (.slice (some ⟨g, o, none⟩) e cv) (.slice Al nl cl) (.int .u64 (e : Int)) (.slice Ar nr cr) ⟨g, o + i, none⟩ ll R P (w3.alloc (.cells #[.int .u64 0, .int .u64 (e : Int), .slice A2 nH c2, .slice Ar nr cr, .bool kb, .slice A6 nG c6, .slice A7 nE c7] 44)).drew := ⟨hKH.cell 0, hKH.cell 1, hKH.cell 2, z1, hKR.cell 1, hKR.cell 3, z2, HK.out.2.1.1.below BA, z3, z4, BW⟩
  clear hKH hKR BA BW z1 z2 z3 z4 HS0
  go_region_held3 (fun w' => w'.cell? ⟨w.heap.size, 0, none⟩ = some (.int .u32 (Ah : Int)) ∧ w'.cell? ⟨w.heap.size, 1, none⟩ = some (.int .u32 (Bh : Int)) ∧ w'.cell? ⟨w.heap.size, 2, none⟩ = some (.int .u32 (Ch : Int)) ∧ w'.cell? ⟨g, o + i, none⟩ = some (.slice Al nl cl) ∧ w'.cell? ⟨w3.heap.size, 1, none⟩ = some (.int .u64 (e : Int)) ∧ w'.cell? ⟨w3.heap.size, 3, none⟩ = some (.slice Ar nr cr) ∧ BytesR w' (.slice Al nl cl) ll ∧ BytesR w' (.slice Ar nr cr) R ∧ HashesR w' (.slice (some ⟨g, o, none⟩) e cv) P ∧ Handle w' ∧ Below w.heap.size w w')
    (first | assumption | exact S0 | exact keepC hb (by assumption) | exact keepC hbp (by assumption))
    (first
      | (go_at_call 14; refine (HP.out _ (show SC w w3.heap.size (.int .u32 (Ah : Int)) (.int .u32 (Bh : Int)) (.int .u32 (Ch : Int)) (.slice (some ⟨g, o, none⟩) e cv) (.slice Al nl cl) (.int .u64 (e : Int)) (.slice Ar nr cr) ⟨g, o + i, none⟩ ll R P _ by assumption).2.2.2.2.2.2.2.2.1).mono ?_; rintro e9 w' ⟨up, rfl, hup0, hbp⟩; have hup := hup0.hashes)
      | (go_at_call 10; have sc := (show SC w w3.heap.size (.int .u32 (Ah : Int)) (.int .u32 (Bh : Int)) (.int .u32 (Ch : Int)) (.slice (some ⟨g, o, none⟩) e cv) (.slice Al nl cl) (.int .u64 (e : Int)) (.slice Ar nr cr) ⟨g, o + i, none⟩ ll R P _ by assumption); refine (HV.out _ _ _ sc.2.2.2.2.2.2.1 hup sc.2.2.2.2.2.2.2.1 sc.2.2.2.2.2.2.2.2.2.1).mono ?_; rintro e9 w' ⟨rfl, hb⟩)
      | fail)
  all_goals
    have hfin := (show SC w w3.heap.size (.int .u32 (Ah : Int)) (.int .u32 (Bh : Int)) (.int .u32 (Ch : Int)) (.slice (some ⟨g, o, none⟩) e cv) (.slice Al nl cl) (.int .u64 (e : Int)) (.slice Ar nr cr) ⟨g, o + i, none⟩ ll R P w' by assumption).2.2.2.2.2.2.2.2.2.2
    go_wp2
    go_ret
    exact ⟨by first | rfl | (simp <;> omega), hfin⟩
set_option maxHeartbeats 2000000 in
theorem walk (F : Stop.Interp) (w : World) (hF : F.answers w.tape) (h : Pl.HF) (ok : h.ok) (a1 : Int) (w1 : -9223372036854775808 ≤ a1 ∧ a1 ≤ 9223372036854775807) (v : Value) (P : List (List Nat)) (hv : HashesR w v P) (hT : LaidIsH w) :
    Calls Tryf.prog 4 #[hashV h, .int .i64 a1, v] w fun e w' => e = .returned (.bool true) ∧ Below w.heap.size w w' := by
  have HB := Lib.hid (fun C => (Below.refl w.heap.size w).alloc (Nat.le_refl _) (.cells C 24))
  obtain ⟨Av, cv, ev, h9v⟩ := id hv
  clear h9v
  subst ev
  by_cases g0 : ¬ Fits P
  case pos =>
    have HFx : Hid (∀ W, Below w.heap.size w W → Calls Tryf.prog 7 #[.slice Av P.length cv] W fun e w' => e = .returned (.bool false) ∧ W = w') := Lib.hid (fun W hb => (fits1_c (.slice Av P.length cv) P W (hv.below hb)).mono fun _ _ r => r.no g0)
    obtain ⟨Ah, Bh, Ch⟩ := h
    unfold hashV
    clear hT hF w1 hv g0 ok
    go_enter Tryf.func4, Tryf.ntmps4
    go_wp2_with fail
    refine (HFx.out _ (HB.out _)).mono ?_; rintro e w' ⟨rfl, rfl⟩
    go_wp2_with fail
    go_ret
    exact ⟨rfl, HB.out _⟩
  have gfP : Fits P := Classical.not_not.1 g0
  clear g0
  have HFP : Hid (∀ W, Below w.heap.size w W → Calls Tryf.prog 7 #[.slice Av P.length cv] W fun e w' => e = .returned (.bool true) ∧ W = w') := Lib.hid (fun W hb => (fits1_c (.slice Av P.length cv) P W (hv.below hb)).mono fun _ _ r => r.yes gfP)
  by_cases g1 : ¬ IsLeaves P
  case pos =>
    have HSx : Hid (∀ W, Below w.heap.size w W → Calls Tryf.prog 12 #[.slice Av P.length cv] W fun e w' => e = .returned (.bool false) ∧ W = w') := Lib.hid (fun W hb => (leaves_c (.slice Av P.length cv) P W (hv.below hb) gfP.1).mono fun _ _ r => r.no g1)
    obtain ⟨Ah, Bh, Ch⟩ := h
    unfold hashV
    clear hT hF w1 hv gfP g1 ok
    go_enter Tryf.func4, Tryf.ntmps4
    go_wp2_with fail
    refine (HFP.out _ (HB.out _)).mono ?_; rintro e w' ⟨rfl, rfl⟩
    go_wp2_with fail
    refine (HSx.out _ (HB.out _)).mono ?_; rintro e w' ⟨rfl, rfl⟩
    go_wp2_with fail
    go_ret
    exact ⟨rfl, HB.out _⟩
  have geP : IsLeaves P := Classical.not_not.1 g1
  clear g1
  have HEP : Hid (∀ W, Below w.heap.size w W → Calls Tryf.prog 12 #[.slice Av P.length cv] W fun e w' => e = .returned (.bool true) ∧ W = w') := Lib.hid (fun W hb => (leaves_c (.slice Av P.length cv) P W (hv.below hb) gfP.1).mono fun _ _ r => r.yes geP)
  by_cases g2 : a1 < 0
  case pos =>
    obtain ⟨Ah, Bh, Ch⟩ := h
    unfold hashV
    clear hT hF w1 hv geP gfP ok
    go_enter Tryf.func4, Tryf.ntmps4
    go_wp2_with fail
    refine (HFP.out _ (HB.out _)).mono ?_; rintro e w' ⟨rfl, rfl⟩
    go_wp2_with fail
    refine (HEP.out _ (HB.out _)).mono ?_; rintro e w' ⟨rfl, rfl⟩
    go_wp2_with fail
    go_ret
    exact ⟨rfl, HB.out _⟩
  by_cases g3 : (P.length : Int) ≤ a1
  case pos =>
    obtain ⟨Ah, Bh, Ch⟩ := h
    unfold hashV
    clear hT hF w1 hv geP gfP ok
    go_enter Tryf.func4, Tryf.ntmps4
    go_wp2_with fail
    refine (HFP.out _ (HB.out _)).mono ?_; rintro e w' ⟨rfl, rfl⟩
    go_wp2_with fail
    refine (HEP.out _ (HB.out _)).mono ?_; rintro e w' ⟨rfl, rfl⟩
    go_wp2_with fail
    go_ret
    exact ⟨rfl, HB.out _⟩
  exact main F h ok a1 Av cv P w hF hT.1 hT.handle hv gfP HFP geP HEP (by omega) (by omega)
theorem reads (os : Os) {H : Type} (enc : TypeId × Value → H) : ∃ places, DataW.whole enc Tryf.prog ((laidWorldH os).forCall (fun _ _ => 0) ⟨#[], #[.agg #[.int .u32 0, .int .u32 0, .int .u32 0], .int .i64 0, .slice none 0 0], []⟩).memory Tryf.f4.params.toList Rows.fnRangeProofSpec.vars false (#[.agg #[.int .u32 0, .int .u32 0, .int .u32 0], .int .i64 0, .slice none 0 0] : Array Value).toList 8 = some ([.agg [.lit (.int .u32 0), .lit (.int .u32 0), .lit (.int .u32 0)], .lit (.int .i64 0), .nil], [], places) :=
  ⟨[], by kernel_rfl⟩
set_option maxRecDepth 100000 in
theorem contract (F : Stop.Interp) (H : Type) (enc : TypeId × Value → H) (W : World) (base : Nat) (args : Array Value) (ds gs : List (DataW H)) (before : List MemPlace) (hF : F.told.answers W.tape)
    (hval0 : ∀ (j : Nat) t v, Tryf.f4.params[j]? = some t → args[j]? = some v → Value.okWide Tryf.prog W .any base t v)
    (hW : DataW.Whole enc Tryf.prog Tryf.f4.params.toList Rows.fnRangeProofSpec.vars false W args.toList ds gs before) (hL : laidMetH Tryf.prog Rows.fnRangeProofRow.laid W) :
    Calls Tryf.prog 4 args W fun e W' => ∃ v, e = .returned v ∧ ((OpenSpec.ofChange Rows.fnRangeProofSpec).at F.told).post enc Tryf.prog Tryf.f4 false true false false W args v W' := by
  have hval : ∀ (j : Nat) t v, Tryf.f4.params[j]? = some t → args[j]? = some v → Value.okWide Tryf.prog W .any base t v := hval0
  have hW' := hW
  obtain ⟨p, q, hA0, hV, rfl, hfz, hnd⟩ := hW
  have hA : DataW.TrodAll enc Tryf.prog W 0 (fun _ => true) true Tryf.f4.params.toList args.toList ds p := hA0
  rw [Tryf.params4] at hA hval
  obtain ⟨v0, vs0, d0, ds0, p0, q0, hargs, rfl, rfl, h0, r0⟩ := trodAll_cons hA
  obtain ⟨v1, vs1, d1, ds1, p1, q1, rfl, rfl, rfl, h1, r1⟩ := trodAll_cons r0
  obtain ⟨v2, vs2, d2, ds2, p2, q2, rfl, rfl, rfl, h2, r2⟩ := trodAll_cons r1
  obtain ⟨rfl, rfl, rfl⟩ := trodAll_nil r2
  obtain rfl : args = #[v0, v1, v2] := by cases args; simp_all
  obtain ⟨rfl, rfl⟩ := trodVars_none hV
  have k0 := h0
  have lt0 : ∀ x ∈ p0, x.block < W.heap.size := by obtain ⟨m, hm⟩ := k0; exact DataW.trod_lt m _ _ _ hm
  obtain ⟨hh0, rfl, w0⟩ := openHash (hval 0 24 v0 rfl rfl) h0
  have k1 := h1
  have lt1 : ∀ x ∈ p1, x.block < W.heap.size := by obtain ⟨m, hm⟩ := k1; exact DataW.trod_lt m _ _ _ hm
  obtain ⟨a1, rfl, hd1, hp1, w1⟩ := open_int Tryf.underlying3 (hval 1 3 v1 rfl rfl) h1
  have k2 := h2
  have lt2 : ∀ x ∈ p2, x.block < W.heap.size := by obtain ⟨m, hm⟩ := k2; exact DataW.trod_lt m _ _ _ hm
  obtain ⟨L2, w2⟩ := openHashes (hval 2 27 v2 rfl rfl) h2
  refine (walk F.told W hF hh0 w0 a1 (bound_i64 w1) v2 L2 w2 (laidIsH_of hL)).mono fun e W' ⟨he, bel⟩ => ?_
  subst he
  exact ⟨_, rfl, _, _, _, [], _, [], hW', trodAll_mk1 (shut_bool Tryf.underlying4 _), (trodAll_cons_mk (Below.trod laidOut (by kernel_rfl) (of_decide_eq_true (by kernel_rfl)) k0 bel lt0) (trodAll_cons_mk (Below.trod laidOut (by kernel_rfl) (of_decide_eq_true (by kernel_rfl)) k1 bel lt1) (trodAll_cons_mk (Below.trod laidOut (by kernel_rfl) (of_decide_eq_true (by kernel_rfl)) k2 bel lt2) trodAll_mk0))), rfl, bel.frame _, fun h => by cases h⟩
set_option maxRecDepth 100000 in
theorem lifted (os : Os) (started : os.Started) (H : Type) (enc : TypeId × Value → H) :
    ReturnsInTold none {} Tryf.checked os 4 .any Input.okWide ((OpenSpec.ofChange Rows.fnRangeProofSpec).preRow enc Tryf.prog Tryf.f4 Rows.fnRangeProofRow.domain false Rows.fnRangeProofRow.laid) (fun F => ((OpenSpec.ofChange Rows.fnRangeProofSpec).at F).post enc Tryf.prog Tryf.f4 false true false false) (aloneAtReturn Tryf.prog) nothingAlways := by
  obtain ⟨places, hx⟩ := reads os enc
  refine returnsInTold_of_row (C := Tryf.checked) (s := OpenSpec.ofChange Rows.fnRangeProofSpec) mayEnter own started (by kernel_rfl) Tryf.func4
    (OpenSpec.witness_stopped_at (enc := enc) (C := Tryf.checked) false (laidWorldH os) #[.agg #[.int .u32 0, .int .u32 0, .int .u32 0], .int .i64 0, .slice none 0 0] rfl (by kernel_rfl) (by kernel_rfl) (by kernel_rfl)
      (OpenSpec.preRow_of_cond 8 hx (by kernel_rfl) (fun k hk => by cases hk) (by kernel_rfl) (laid_metH os #[.agg #[.int .u32 0, .int .u32 0, .int .u32 0], .int .i64 0, .slice none 0 0]))) ?_
  intro F W base args ds gs before _ hF hval hW _ _ _ hL _
  exact contract F H enc W base args ds gs before hF hval hW hL
theorem proved : Rows.FnRangeProofToldSaid :=
  Claim7.holds_of_told_tied_any_at .later 4 Tryf.f4 "fmt.errorf" [] [] _ _ _ _ _ (by kernel_rfl) rfl rfl rfl laidOut (by kernel_rfl) rfl ⟨rfl, rfl, rfl, rfl, rfl, rfl, rfl⟩ rfl rfl (by kernel_rfl) (by kernel_rfl) Tryf.func4 (by kernel_rfl)
    (of_decide_eq_true (by kernel_rfl)) (by unfold Func.isWrapper; first | (rw [if_pos (by decide +kernel)]; kernel_rfl) | (rw [if_neg (by decide +kernel)]; exact ⟨rfl, rfl⟩)) stopsAre.symm rfl stopKnobs.symm (by kernel_rfl)
    (by kernel_rfl) (by kernel_rfl) (by kernel_rfl) (by kernel_rfl) (by kernel_rfl) (by kernel_rfl) (by kernel_rfl) (by kernel_rfl) (by kernel_rfl) rfl (by kernel_rfl) rfl rfl
    rfl rfl
    rfl mainIs (by kernel_rfl) (by kernel_rfl) (by decide) (by kernel_rfl) fnRangeProof_row_tie
    (OpenClaim.moreEntering_of mayEnter (by kernel_rfl) (by kernel_rfl) (by kernel_rfl) (by kernel_rfl) (by kernel_rfl) (by kernel_rfl) (by kernel_rfl) liftsFinal.symm make)
    ⟨_, WideRow.started_initial, quiet _⟩
    (fun os started _ H enc _ => lifted os started H enc)
end Go.Proofs.YtobnmgnnidhfkaaFmt.fnRangeProof
