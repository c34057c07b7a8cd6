/- Of a consistency proof, hashes that are not as many as the nodes are an error. -/
import Derived.Test.YtniodnkejpbheaaFmtOpenH
import Derived.Test.YtniodnkejpbheaaFmtImplCons
import Derived.Test.YtniodnkejpbheaaFmtEphem2
import Derived.Test.YtniodnkejpbheaaFmtRehErr
import Derived.Test.YtniodnkejpbheaaFmtImplVer
namespace Go.Proofs.YtniodnkejpbheaaFmt.fnRehashLengthConsistency
open Go.ChangeShapes Go.WideShapes Go.ChangeAt Go.RowKit
set_option maxRecDepth 100000
theorem consE_le {i n : Nat} (h1 : 0 < i) (h2 : i < n) (hn : n < 18446744073709551616) : Pl.consE i n ≤ (Pl.consL i n).length := by
  obtain ⟨_, k2, _⟩ := cl_spec h1 h2 hn
  have e2 := (sk_plan (Pl.cl i) (Pl.ci i) n).2
  unfold Pl.consE Pl.consL
  split
  · rw [e2]
    split
    · omega
    · unfold Pl.planL; simp [Pl.sibs_length] <;> omega
  · unfold Pl.planE Pl.planL
    simp only [List.length_append, List.length_reverse, List.length_cons, Pl.sibs_length]
    split <;> omega
theorem keep1 {w W w' : World} (h : Below w.heap.size w W) (hb : Below W.heap.size W w') : Below w.heap.size w w' := h.trans (hb.mono h.size)
set_option maxHeartbeats 2000000 in
theorem core (h : Pl.HF) (i s : Nat) (hg : 1 ≤ i ∧ i ≤ s) (A : Option Addr) (cap nH n : Nat) (N : List (Nat × Nat)) (b e el ei : Nat) (bb : Bool) (w : World) (hT : Tab w) (hH : Handle w) (hn : N.length = n) (hq : ((nH : Int) == (n : Int)) = bb)
    (hF : ∀ W, Below w.heap.size w W → Calls Tryf.prog 23 #[.slice A nH cap] W fun e w' => e = .returned (.bool true) ∧ W = w')
    (hL : ∀ W, Below w.heap.size w W → Calls Tryf.prog 30 #[.slice A nH cap] W fun e w' => e = .returned (.bool true) ∧ W = w')
    (hIP : ∀ W, Tab W → Calls Tryf.prog 21 #[.int .u64 (i : Int), .int .u64 (s : Int)] W (RetPlanO W N b e el ei))
    (hRI : ∀ (W : World), Tab W → Below w.heap.size w W → Calls Tryf.prog 31 #[hashV h, .int .u64 (i : Int), .int .u64 (s : Int), .slice A nH cap] W fun r w' => ∃ A3 n3 c3, r = .returned (.tuple #[.slice A3 n3 c3, .bool bb]) ∧ Below W.heap.size W w') :
    Calls Tryf.prog 14 #[hashV h, .int .u64 (i : Int), .int .u64 (s : Int), .slice A nH cap] w fun e w' => e = .returned (.bool true) ∧ Below w.heap.size w w' := by
  have HB := Lib.hid (fun C => (Below.refl w.heap.size w).alloc (Nat.le_refl _) (.cells C 42))
  have HF := Lib.hid hF
  have HL := Lib.hid hL
  have HIP := Lib.hid hIP
  have HRI := Lib.hid hRI
  have HPr := Lib.hid (fun (W : World) (hb : Below w.heap.size w W) => proves_c W (hH.below hb))
  have HTT := Lib.hid (fun (W : World) (hb : Below w.heap.size w W) => hT.below hb)
  have hge : ¬ (i : Int) < 1 := by omega
  have hge2 : ¬ (s : Int) < (i : Int) := by omega
  clear hT hH hF hL hIP hRI hg
  obtain ⟨Ah, Bh, Ch⟩ := h
  unfold hashV at HRI ⊢
  simp only [] at HRI ⊢
  go_enter Tryf.func14, Tryf.ntmps14
  go_wp2_with fail
  refine (HF.out _ (HB.out _)).mono ?_; rintro r w' ⟨rfl, rfl⟩
  go_wp2_with fail
  refine (HL.out _ (HB.out _)).mono ?_; rintro r w' ⟨rfl, rfl⟩
  go_wp2_with fail
  refine (HIP.out _ (HTT.out _ (HB.out _))).mono ?_; rintro r w1 ⟨v1, rfl, hv1, hb1⟩
  obtain ⟨An, cn, rfl, _, _⟩ := id hv1
  rw [hn]
  have B1 := (HB.out #[.int .u32 (Ah : Int), .int .u32 (Bh : Int), .int .u32 (Ch : Int)]).trans (hb1.mono (by simp))
  have K1 : Blk w1 w.heap.size 42 #[.int .u32 (Ah : Int), .int .u32 (Bh : Int), .int .u32 (Ch : Int)] := (Blk.new w _ _).below' hb1
  clear hb1 hv1 HB HIP
  have hww := K1.lt
  obtain ⟨c1, c2, c3, _⟩ := K1.three
  go_wp2_with fail
  have P2 := Blk.new w1 28 #[.slice An n cn, .int .u64 (el : Int), .int .u64 (ei : Int), .int .i64 (b : Int), .int .i64 (e : Int)]
  have hb2 := (Below.refl w1.heap.size w1).alloc (Nat.le_refl _) (.cells #[.slice An n cn, .int .u64 (el : Int), .int .u64 (ei : Int), .int .i64 (b : Int), .int .i64 (e : Int)] 28)
  have B2 := keep1 B1 hb2
  refine (HRI.out _ (HTT.out _ B2) B2).mono ?_; rintro r w3 ⟨A3, n3, c3', rfl, hb3⟩
  have B3 := keep1 B2 hb3
  obtain ⟨p1, p2, p3, p4, p5, _⟩ := (P2.below' hb3).five
  clear c1 c2 c3 hb3 K1 HRI B1 B2 P2 hb2
  go_wp2_with fail
  refine (HPr.out _ B3).mono ?_; rintro e w4 ⟨rfl, hb4⟩
  have B4 := keep1 B3 hb4
  clear hb4
  go_wp2_with fail
  go_ret
  exact ⟨rfl, B4⟩
set_option maxHeartbeats 2000000 in
theorem walk (F : Stop.Interp) (w : World) (hF : F.answers w.tape) (h : Pl.HF) (ok : h.ok) (a1 : Int) (w1 : 0 ≤ a1 ∧ a1 < 18446744073709551616) (a2 : Int) (w2 : 0 ≤ a2 ∧ a2 < 18446744073709551616) (v : Value) (L : List (List Nat)) (hv : HashesR w v L) (hT : LaidIsH w) :
    Calls Tryf.prog 14 #[hashV h, .int .u64 a1, .int .u64 a2, v] w fun e w' => e = .returned (.bool true) ∧ Below w.heap.size w w' := by
  obtain ⟨i, rfl⟩ := Int.eq_ofNat_of_zero_le w1.1
  obtain ⟨s, rfl⟩ := Int.eq_ofNat_of_zero_le w2.1
  have hs : s < 18446744073709551616 := by omega
  have HB := Lib.hid (fun C => (Below.refl w.heap.size w).alloc (Nat.le_refl _) (.cells C 42))
  have HFi := Lib.hid (fun W (hb : Below w.heap.size w W) => fits1_c v L W (hv.below hb))
  obtain ⟨A, cap, rfl, hcap, hat0⟩ := id hv
  clear hat0
  by_cases hf : Fits L
  case neg =>
    have HF : Hid (∀ W, Below w.heap.size w W → Calls Tryf.prog 23 #[.slice A L.length cap] W fun e w' => e = .returned (.bool false) ∧ W = w') := Lib.hid (fun W hb => (HFi.out W hb).mono fun _ _ r => r.no hf)
    obtain ⟨Ah, Bh, Ch⟩ := h
    unfold hashV
    clear hT hF hv hf HFi w1 w2 hs
    go_enter Tryf.func14, Tryf.ntmps14
    go_wp2_with fail
    refine (HF.out _ (HB.out _)).mono ?_; rintro e w' ⟨rfl, rfl⟩
    go_wp2_with fail
    go_ret
    exact ⟨rfl, HB.out _⟩
  have HF : Hid (∀ W, Below w.heap.size w W → Calls Tryf.prog 23 #[.slice A L.length cap] W fun e w' => e = .returned (.bool true) ∧ W = w') := Lib.hid (fun W hb => (HFi.out W hb).mono fun _ _ r => r.yes hf)
  have HLe := Lib.hid (fun W (hb : Below w.heap.size w W) => hashes_s (.slice A L.length cap) L W (hv.below hb) hf.1)
  clear HFi
  by_cases hlt : 1 ≤ i ∧ i ≤ s
  case neg =>
    obtain ⟨Ah, Bh, Ch⟩ := h
    unfold hashV
    clear hT hF hv hf HLe w1 w2 hs
    by_cases h1 : (i : Int) < 1
    · clear hlt
      go_enter Tryf.func14, Tryf.ntmps14
      go_wp2_with fail
      refine (HF.out _ (HB.out _)).mono ?_; rintro e w' ⟨rfl, rfl⟩
      go_wp2_with fail
      go_ret
      exact ⟨rfl, HB.out _⟩
    have hge : (s : Int) < (i : Int) := by omega
    clear hlt
    go_enter Tryf.func14, Tryf.ntmps14
    go_wp2_with fail
    refine (HF.out _ (HB.out _)).mono ?_; rintro e w' ⟨rfl, rfl⟩
    go_wp2_with fail
    go_ret
    exact ⟨rfl, HB.out _⟩

  have hlt' := hlt
  by_cases hl : L.length = 0 ∨ IsLeaves L
  case neg =>
    have HL : Hid (∀ W, Below w.heap.size w W → Calls Tryf.prog 30 #[.slice A L.length cap] W fun e w' => e = .returned (.bool false) ∧ W = w') := Lib.hid (fun W hb => (HLe.out W hb).mono fun _ _ r => r.no hl)
    obtain ⟨Ah, Bh, Ch⟩ := h
    unfold hashV
    have hge : ¬ (i : Int) < 1 := by omega
    have hge2 : ¬ (s : Int) < (i : Int) := by omega
    clear hT hF hv hf HLe hl w1 w2 hs hlt hlt'
    go_enter Tryf.func14, Tryf.ntmps14
    go_wp2_with fail
    refine (HF.out _ (HB.out _)).mono ?_; rintro e w' ⟨rfl, rfl⟩
    go_wp2_with fail
    refine (HL.out _ (HB.out _)).mono ?_; rintro e w' ⟨rfl, rfl⟩
    go_wp2_with fail
    go_ret
    exact ⟨rfl, HB.out _⟩
  have HL : Hid (∀ W, Below w.heap.size w W → Calls Tryf.prog 30 #[.slice A L.length cap] W fun e w' => e = .returned (.bool true) ∧ W = w') := Lib.hid (fun W hb => (HLe.out W hb).mono fun _ _ r => r.yes hl)
  have fin : ∀ (N : List (Nat × Nat)) (b e el ei : Nat), e ≤ N.length → (∀ W, Tab W → Calls Tryf.prog 21 #[.int .u64 (i : Int), .int .u64 (s : Int)] W (RetPlanO W N b e el ei)) → (∀ W, Tab W → Calls Tryf.prog 39 #[.int .u64 (i : Int), .int .u64 (s : Int)] W (RetPlanT W N b e el ei)) → _ := fun N b e el ei he h1 h2 => by
    by_cases hN : N.length = L.length
    · exact core h i s hlt A cap L.length N.length N b e el ei true w hT.1 hT.2 rfl (by simp [hN]) HF.out HL.out h1
        (fun W hT hb => (rehCons_c h ok i s b e el ei N (.slice A L.length cap) L W hT h2 (hv.below hb) hf hN (by omega)).mono fun r w' ⟨v, e1, hv, hb⟩ => by
          obtain ⟨A3, c3, rfl, _⟩ := hv
          exact ⟨A3, _, c3, e1, hb⟩)
    · exact core h i s hlt A cap L.length N.length N b e el ei false w hT.1 hT.2 rfl (by simp; omega) HF.out HL.out h1
        (fun W hT hb => (rehCons_err F h i s b e el ei N (.slice A L.length cap) L W (ans_below hF hb) hT h2 (hv.below hb) hf (by omega)).mono fun r w' ⟨⟨A3, c3, e1⟩, hb⟩ => ⟨A3, 0, c3, e1, hb⟩)
  rcases Nat.lt_or_ge i s with h2 | h2
  · exact fin _ _ _ _ _ (consE_le (by omega) h2 hs) (fun W hT => implCons i s (by omega) h2 hs W hT) (fun W hT => consistency_c i s (by omega) h2 hs W hT)
  · obtain rfl : i = s := by omega
    exact fin [] 0 0 0 0 (Nat.le_refl _) (fun W _ => (implSame i W).mono fun e w' ⟨A, c, he, hn, hb⟩ => ⟨_, he, hn, hb⟩) (fun W _ => (consSame_c i W).mono fun e w' ⟨v, he, hn, hb⟩ => ⟨v, he, hn, hb⟩)
theorem reads (os : Os) {H : Type} (enc : TypeId × Value → H) : ∃ places, DataW.whole enc Tryf.prog ((laidWorldH os).forCall (fun _ _ => 0) ⟨#[], #[.agg #[.int .u32 0, .int .u32 0, .int .u32 0], .int .u64 0, .int .u64 0, .slice none 0 0], []⟩).memory Tryf.f14.params.toList Rows.fnRehashLengthConsistencySpec.vars false (#[.agg #[.int .u32 0, .int .u32 0, .int .u32 0], .int .u64 0, .int .u64 0, .slice none 0 0] : Array Value).toList 8 = some ([.agg [.lit (.int .u32 0), .lit (.int .u32 0), .lit (.int .u32 0)], .lit (.int .u64 0), .lit (.int .u64 0), .nil], [], places) :=
  ⟨[], by kernel_rfl⟩
set_option maxRecDepth 100000 in
theorem contract (F : Stop.Interp) (H : Type) (enc : TypeId × Value → H) (W : World) (base : Nat) (args : Array Value) (ds gs : List (DataW H)) (before : List MemPlace) (hF : F.told.answers W.tape)
    (hval0 : ∀ (j : Nat) t v, Tryf.f14.params[j]? = some t → args[j]? = some v → Value.okWide Tryf.prog W .any base t v)
    (hW : DataW.Whole enc Tryf.prog Tryf.f14.params.toList Rows.fnRehashLengthConsistencySpec.vars false W args.toList ds gs before) (hL : laidMetH Tryf.prog Rows.fnRehashLengthConsistencyRow.laid W) :
    Calls Tryf.prog 14 args W fun e W' => ∃ v, e = .returned v ∧ ((OpenSpec.ofChange Rows.fnRehashLengthConsistencySpec).at F.told).post enc Tryf.prog Tryf.f14 false true false false W args v W' := by
  have hval : ∀ (j : Nat) t v, Tryf.f14.params[j]? = some t → args[j]? = some v → Value.okWide Tryf.prog W .any base t v := hval0
  have hW' := hW
  obtain ⟨p, q, hA0, hV, rfl, hfz, hnd⟩ := hW
  have hA : DataW.TrodAll enc Tryf.prog W 0 (fun _ => true) true Tryf.f14.params.toList args.toList ds p := hA0
  rw [Tryf.params14] at hA hval
  obtain ⟨v0, vs0, d0, ds0, p0, q0, hargs, rfl, rfl, h0, r0⟩ := trodAll_cons hA
  obtain ⟨v1, vs1, d1, ds1, p1, q1, rfl, rfl, rfl, h1, r1⟩ := trodAll_cons r0
  obtain ⟨v2, vs2, d2, ds2, p2, q2, rfl, rfl, rfl, h2, r2⟩ := trodAll_cons r1
  obtain ⟨v3, vs3, d3, ds3, p3, q3, rfl, rfl, rfl, h3, r3⟩ := trodAll_cons r2
  obtain ⟨rfl, rfl, rfl⟩ := trodAll_nil r3
  obtain rfl : args = #[v0, v1, v2, v3] := by cases args; simp_all
  obtain ⟨rfl, rfl⟩ := trodVars_none hV
  have k0 := h0
  have lt0 : ∀ x ∈ p0, x.block < W.heap.size := by obtain ⟨m, hm⟩ := k0; exact DataW.trod_lt m _ _ _ hm
  obtain ⟨hh0, rfl, w0⟩ := openHash (hval 0 42 v0 rfl rfl) h0
  have k1 := h1
  have lt1 : ∀ x ∈ p1, x.block < W.heap.size := by obtain ⟨m, hm⟩ := k1; exact DataW.trod_lt m _ _ _ hm
  obtain ⟨a1, rfl, hd1, hp1, w1⟩ := open_int Tryf.underlying22 (hval 1 22 v1 rfl rfl) h1
  have k2 := h2
  have lt2 : ∀ x ∈ p2, x.block < W.heap.size := by obtain ⟨m, hm⟩ := k2; exact DataW.trod_lt m _ _ _ hm
  obtain ⟨a2, rfl, hd2, hp2, w2⟩ := open_int Tryf.underlying22 (hval 2 22 v2 rfl rfl) h2
  have k3 := h3
  have lt3 : ∀ x ∈ p3, x.block < W.heap.size := by obtain ⟨m, hm⟩ := k3; exact DataW.trod_lt m _ _ _ hm
  obtain ⟨L3, w3⟩ := openHashes (hval 3 43 v3 rfl rfl) h3
  refine (walk F.told W hF hh0 w0 a1 (bound_u64 w1) a2 (bound_u64 w2) v3 L3 w3 (laidIsH_of hL)).mono fun e W' ⟨he, bel⟩ => ?_
  subst he
  exact ⟨_, rfl, _, _, _, [], _, [], hW', trodAll_mk1 (shut_bool Tryf.underlying4 _), (trodAll_cons_mk (Below.trod laidOut (by kernel_rfl) (of_decide_eq_true (by kernel_rfl)) k0 bel lt0) (trodAll_cons_mk (Below.trod laidOut (by kernel_rfl) (of_decide_eq_true (by kernel_rfl)) k1 bel lt1) (trodAll_cons_mk (Below.trod laidOut (by kernel_rfl) (of_decide_eq_true (by kernel_rfl)) k2 bel lt2) (trodAll_cons_mk (Below.trod laidOut (by kernel_rfl) (of_decide_eq_true (by kernel_rfl)) k3 bel lt3) trodAll_mk0)))), rfl, bel.frame _, fun h => by cases h⟩
set_option maxRecDepth 100000 in
theorem lifted (os : Os) (started : os.Started) (H : Type) (enc : TypeId × Value → H) :
    ReturnsInTold none {} Tryf.checked os 14 .any Input.okWide ((OpenSpec.ofChange Rows.fnRehashLengthConsistencySpec).preRow enc Tryf.prog Tryf.f14 Rows.fnRehashLengthConsistencyRow.domain false Rows.fnRehashLengthConsistencyRow.laid) (fun F => ((OpenSpec.ofChange Rows.fnRehashLengthConsistencySpec).at F).post enc Tryf.prog Tryf.f14 false true false false) (aloneAtReturn Tryf.prog) nothingAlways := by
  obtain ⟨places, hx⟩ := reads os enc
  refine returnsInTold_of_row (C := Tryf.checked) (s := OpenSpec.ofChange Rows.fnRehashLengthConsistencySpec) mayEnter own started (by kernel_rfl) Tryf.func14
    (OpenSpec.witness_stopped_at (enc := enc) (C := Tryf.checked) false (laidWorldH os) #[.agg #[.int .u32 0, .int .u32 0, .int .u32 0], .int .u64 0, .int .u64 0, .slice none 0 0] rfl (by kernel_rfl) (by kernel_rfl) (by kernel_rfl)
      (OpenSpec.preRow_of_cond 8 hx (by kernel_rfl) (fun k hk => by cases hk) (by kernel_rfl) (laid_metH os #[.agg #[.int .u32 0, .int .u32 0, .int .u32 0], .int .u64 0, .int .u64 0, .slice none 0 0]))) ?_
  intro F W base args ds gs before _ hF hval hW _ _ _ hL _
  exact contract F H enc W base args ds gs before hF hval hW hL
theorem proved : Rows.FnRehashLengthConsistencyToldSaid :=
  Claim7.holds_of_told_tied_any_at .later 14 Tryf.f14 "fmt.errorf" [] [] _ _ _ _ _ (by kernel_rfl) rfl rfl rfl laidOut (by kernel_rfl) rfl ⟨rfl, rfl, rfl, rfl, rfl, rfl, rfl⟩ rfl rfl (by kernel_rfl) (by kernel_rfl) Tryf.func14 (by kernel_rfl)
    (of_decide_eq_true (by kernel_rfl)) (by unfold Func.isWrapper; first | (rw [if_pos (by decide +kernel)]; kernel_rfl) | (rw [if_neg (by decide +kernel)]; exact ⟨rfl, rfl⟩)) stopsAre.symm rfl stopKnobs.symm (by kernel_rfl)
    (by kernel_rfl) (by kernel_rfl) (by kernel_rfl) (by kernel_rfl) (by kernel_rfl) (by kernel_rfl) (by kernel_rfl) (by kernel_rfl) (by kernel_rfl) rfl (by kernel_rfl) rfl rfl
    rfl rfl
    rfl mainIs (by kernel_rfl) (by kernel_rfl) (by decide) (by kernel_rfl) fnRehashLengthConsistency_row_tie
    (OpenClaim.moreEntering_of mayEnter (by kernel_rfl) (by kernel_rfl) (by kernel_rfl) (by kernel_rfl) (by kernel_rfl) (by kernel_rfl) (by kernel_rfl) liftsFinal.symm make)
    ⟨_, WideRow.started_initial, quiet _⟩
    (fun os started _ H enc _ => lifted os started H enc)
end Go.Proofs.YtniodnkejpbheaaFmt.fnRehashLengthConsistency
