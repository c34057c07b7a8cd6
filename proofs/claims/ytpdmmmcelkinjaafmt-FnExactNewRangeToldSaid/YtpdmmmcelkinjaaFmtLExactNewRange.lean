/- A range is made of just as many hashes as it has nodes, and has them. -/
import Derived.Test.YtpdmmmcelkinjaaFmtImplNew
import Derived.Test.YtpdmmmcelkinjaaFmtWorks
import Derived.Test.YtpdmmmcelkinjaaFmtOpenH
namespace Go.Proofs.YtpdmmmcelkinjaaFmt.fnExactNewRange
open Go.ChangeShapes Go.WideShapes Go.ChangeAt Go.RowKit
set_option maxRecDepth 100000
set_option maxHeartbeats 8000000 in
theorem main (F : Stop.Interp) (h : Pl.HF) (ok : h.ok) (b e : Nat) (Av : Option Addr) (cv : Nat) (P : List (List Nat)) (w : World) (hF : F.answers w.tape) (hT : Tab w) (hv : HashesR w (.slice Av P.length cv) P) (_gfP : Fits P) (HFP : Hid (∀ W, Below w.heap.size w W → Calls Tryf.prog 14 #[.slice Av P.length cv] W fun e w' => e = .returned (.bool true) ∧ W = w')) (hbe : b ≤ e) (he : e ≤ 4611686018427387904) (ghP : P.length = 0 ∨ IsLeaves P) (HSP : Hid (∀ W, Below w.heap.size w W → Calls Tryf.prog 19 #[.slice Av P.length cv] W fun e w' => e = .returned (.bool true) ∧ W = w')) :
    Calls Tryf.prog 4 #[hashV h, .int .u64 (b : Int), .int .u64 (e : Int), .slice Av P.length cv] w fun e w' => e = .returned (.bool true) ∧ Below w.heap.size w w' := by
  have h2 : ∀ x ∈ P, x.length = 2 := by
    rcases ghP with h0 | h1
    · rw [List.eq_nil_of_length_eq_zero h0]; intro x hx; cases hx
    · exact h1.1
  have hl : P.length ≤ 200 := by
    rcases ghP with h0 | h1
    · omega
    · exact h1.2.2
  have HB := Lib.hid (fun C => (Below.refl w.heap.size w).alloc (Nat.le_refl _) (.cells C 24))
  have HV := Lib.hid hv
  have HPC := Lib.hid (fun W => pieces_c b e (by omega) (by omega) W)
  have t1 : ¬ (e : Int) < (b : Int) := by omega
  have t2 : (e : Int) ≤ 4611686018427387904 := by omega
  by_cases hn : P.length = (Pl.pieces b e).length
  · have HNW := Lib.hid (fun W (hW : Below w.heap.size w W) => new_c F h ok b e (.slice Av P.length cv) P W (ans_below hF hW) (hv.below hW) h2 hbe (by omega) hn (hT.below hW))
    have t3 : ¬ ((P.length : Nat) : Int) = ((Pl.pieces b e).length : Int) → False := fun hc => hc (by omega)
    have t4 : (((P.length : Nat) : Int) != ((Pl.pieces b e).length : Int)) = false := by simp; omega
    have HSM := Lib.hid (fun W (v1 v2 : Value) (h1 : HashesR W v1 P) (h2 : HashesR W v2 P) => (sameHashes_c v1 v2 P P W h1 h2 (by omega)).mono fun _ _ r => r.yes rfl)
    generalize Pl.pieces b e = N at *
    have HNL := Lib.hid hn.symm
    have HNL2 : Hid (N.length = P.length) := HNL
    clear hv hF hT ok h2 ghP hbe he hl t3 t4 hn HNL
    generalize hPn : P.length = n at *
    have HPn := Lib.hid hPn
    clear hPn
    obtain ⟨Ah, Bh, Ch⟩ := h
    unfold hashV
    go_enter Tryf.func4, Tryf.ntmps4
    go_wp2_with fail
    refine (HFP.out _ (HB.out _)).mono ?_; rintro e w' ⟨rfl, rfl⟩
    go_wp2_with fail
    refine (HSP.out _ (HB.out _)).mono ?_; rintro e w' ⟨rfl, rfl⟩
    go_wp2_with fail
    refine (HNW.out _ (HB.out _)).mono ?_; rintro r w3 ⟨A2, Ar, A7, c2, nr, cr, c7, nE, kb, R, E, rfl, HQ, HK, hb3⟩
    rw [HPn.out] at HK ⊢
    have HB3 := Lib.hid ((HB.out _).trans (hb3.mono (HB.out _).size))
    clear hb3
    go_wp2_with fail
    refine (HPC.out _).mono ?_; rintro r w4 ⟨nv, rfl, hno, hb4⟩
    obtain ⟨An, cn, rfl, _⟩ := own_slice hno
    rw [HNL2.out]
    have BA : Below w3.heap.size w3 (w3.alloc (.cells #[.int .u64 (b : Int), .int .u64 (e : Int), .slice A2 n c2, .slice Ar nr cr, .bool kb, .slice none 0 0, .slice A7 nE c7] 31)) := (Below.refl _ _).alloc (Nat.le_refl _) _
    have hKR := (Blk.new w3 31 #[.int .u64 (b : Int), .int .u64 (e : Int), .slice A2 n c2, .slice Ar nr cr, .bool kb, .slice none 0 0, .slice A7 nE c7]).below' hb4
    obtain ⟨c0, c1, c2', _⟩ := hKR.seven
    have HH2 := Lib.hid ((HK.out.1.hashes.below BA).below hb4)
    have HV2 := Lib.hid (((HV.out.below HB3.out).below BA).below hb4)
    have HB4 := Lib.hid ((HB3.out.trans (BA.mono HB3.out.size)).trans (hb4.mono (Nat.le_trans HB3.out.size BA.size)))
    clear hno BA hKR hb4
    go_wp2_with fail
    refine (HSM.out _ _ _ HH2.out HV2.out).mono ?_; rintro r w5 ⟨rfl, hb5⟩
    have HB5 := Lib.hid (HB4.out.trans (hb5.mono HB4.out.size))
    clear hb5
    go_wp2_with fail
    refine (works_c _).mono ?_; rintro r w6 ⟨rfl, hb6⟩
    have HB6 := Lib.hid (HB5.out.trans (hb6.mono HB5.out.size))
    clear hb6
    go_wp2_with fail
    go_ret
    exact ⟨rfl, HB6.out⟩
  · have HNW := Lib.hid (fun W (hW : Below w.heap.size w W) => new_err F h b e (.slice Av P.length cv) P W (ans_below hF hW) (hv.below hW) h2 hbe (by omega) hn (by omega))
    generalize Pl.pieces b e = N at *
    have HNL := Lib.hid hn
    clear hv hF hT ok h2 ghP hbe he hl hn
    generalize hPn : P.length = n at *
    clear hPn
    obtain ⟨Ah, Bh, Ch⟩ := h
    unfold hashV
    go_enter Tryf.func4, Tryf.ntmps4
    go_wp2_with fail
    refine (HFP.out _ (HB.out _)).mono ?_; rintro e w' ⟨rfl, rfl⟩
    go_wp2_with fail
    refine (HSP.out _ (HB.out _)).mono ?_; rintro e w' ⟨rfl, rfl⟩
    go_wp2_with fail
    refine (HNW.out _ (HB.out _)).mono ?_; rintro r w3 ⟨rfl, hb3⟩
    have HB3 := Lib.hid ((HB.out _).trans (hb3.mono (HB.out _).size))
    clear hb3
    go_wp2_with fail
    refine (HPC.out _).mono ?_; rintro r w4 ⟨nv, rfl, hno, hb4⟩
    obtain ⟨An, cn, rfl, _⟩ := own_slice hno
    have BA : Below w3.heap.size w3 (w3.alloc (.cells #[.int .u64 0, .int .u64 0, .slice none 0 0, .slice none 0 0, .bool false, .slice none 0 0, .slice none 0 0] 31)) := (Below.refl _ _).alloc (Nat.le_refl _) _
    have HB4 := Lib.hid ((HB3.out.trans (BA.mono HB3.out.size)).trans (hb4.mono (Nat.le_trans HB3.out.size BA.size)))
    clear hno BA hb4
    generalize N.length = m at *
    have t5 : ¬ (n : Int) = (m : Int) := by have := HNL.out; omega
    have t6 : ((n : Int) != (m : Int)) = true := by simp; omega
    go_wp2_with fail
    refine (works_c _).mono ?_; rintro r w6 ⟨rfl, hb6⟩
    have HB6 := Lib.hid (HB4.out.trans (hb6.mono HB4.out.size))
    clear hb6
    go_wp2_with fail
    go_ret
    exact ⟨rfl, HB6.out⟩
set_option maxHeartbeats 4000000 in
theorem walk (F : Stop.Interp) (w : World) (hF : F.answers w.tape) (h : Pl.HF) (ok : h.ok) (a1 : Int) (w1 : 0 ≤ a1 ∧ a1 < 18446744073709551616) (a2 : Int) (w2 : 0 ≤ a2 ∧ a2 < 18446744073709551616) (v : Value) (P : List (List Nat)) (hv : HashesR w v P) (hT : LaidIs w) :
    Calls Tryf.prog 4 #[hashV h, .int .u64 a1, .int .u64 a2, v] w fun e w' => e = .returned (.bool true) ∧ Below w.heap.size w w' := by
  obtain ⟨b, rfl⟩ := Int.eq_ofNat_of_zero_le w1.1
  obtain ⟨e, rfl⟩ := Int.eq_ofNat_of_zero_le w2.1
  have hbs : b < 18446744073709551616 ∧ e < 18446744073709551616 := by omega
  clear w1 w2
  have HB := Lib.hid (fun C => (Below.refl w.heap.size w).alloc (Nat.le_refl _) (.cells C 24))
  obtain ⟨Av, cv, ev, h9v⟩ := id hv
  clear h9v
  subst ev
  by_cases g0 : ¬ Fits P
  case pos =>
    have HFx : Hid (∀ W, Below w.heap.size w W → Calls Tryf.prog 14 #[.slice Av P.length cv] W fun e w' => e = .returned (.bool false) ∧ W = w') := Lib.hid (fun W hb => (fits1_c (.slice Av P.length cv) P W (hv.below hb)).mono fun _ _ r => r.no g0)
    obtain ⟨Ah, Bh, Ch⟩ := h
    unfold hashV
    clear hbs hT hF hv g0 ok
    go_enter Tryf.func4, Tryf.ntmps4
    go_wp2_with fail
    refine (HFx.out _ (HB.out _)).mono ?_; rintro e w' ⟨rfl, rfl⟩
    go_wp2_with fail
    go_ret
    exact ⟨rfl, HB.out _⟩
  have gfP : Fits P := Classical.not_not.1 g0
  clear g0
  have HFP : Hid (∀ W, Below w.heap.size w W → Calls Tryf.prog 14 #[.slice Av P.length cv] W fun e w' => e = .returned (.bool true) ∧ W = w') := Lib.hid (fun W hb => (fits1_c (.slice Av P.length cv) P W (hv.below hb)).mono fun _ _ r => r.yes gfP)
  by_cases g1 : (e : Int) < (b : Int)
  case pos =>
    obtain ⟨Ah, Bh, Ch⟩ := h
    unfold hashV
    clear hbs hT hF hv gfP ok
    go_enter Tryf.func4, Tryf.ntmps4
    go_wp2_with fail
    refine (HFP.out _ (HB.out _)).mono ?_; rintro e w' ⟨rfl, rfl⟩
    go_wp2_with fail
    go_ret
    exact ⟨rfl, HB.out _⟩
  by_cases g2 : (4611686018427387904 : Int) < (e : Int)
  case pos =>
    obtain ⟨Ah, Bh, Ch⟩ := h
    unfold hashV
    clear hbs hT hF hv gfP ok
    go_enter Tryf.func4, Tryf.ntmps4
    go_wp2_with fail
    refine (HFP.out _ (HB.out _)).mono ?_; rintro e w' ⟨rfl, rfl⟩
    go_wp2_with fail
    go_ret
    exact ⟨rfl, HB.out _⟩
  by_cases g3 : ¬ (P.length = 0 ∨ IsLeaves P)
  case pos =>
    have HSx : Hid (∀ W, Below w.heap.size w W → Calls Tryf.prog 19 #[.slice Av P.length cv] W fun e w' => e = .returned (.bool false) ∧ W = w') := Lib.hid (fun W hb => (hashes_s (.slice Av P.length cv) P W (hv.below hb) gfP.1).mono fun _ _ r => r.no g3)
    have g4 : (e : Int) ≤ 4611686018427387904 := by omega
    obtain ⟨Ah, Bh, Ch⟩ := h
    unfold hashV
    clear hbs hT hF hv gfP ok g3 g2
    go_enter Tryf.func4, Tryf.ntmps4
    go_wp2_with fail
    refine (HFP.out _ (HB.out _)).mono ?_; rintro e w' ⟨rfl, rfl⟩
    go_wp2_with fail
    refine (HSx.out _ (HB.out _)).mono ?_; rintro e w' ⟨rfl, rfl⟩
    go_wp2_with fail
    go_ret
    exact ⟨rfl, HB.out _⟩
  have ghP := Classical.not_not.1 g3
  have HSP : Hid (∀ W, Below w.heap.size w W → Calls Tryf.prog 19 #[.slice Av P.length cv] W fun e w' => e = .returned (.bool true) ∧ W = w') := Lib.hid (fun W hb => (hashes_s (.slice Av P.length cv) P W (hv.below hb) gfP.1).mono fun _ _ r => r.yes ghP)
  exact main F h ok b e Av cv P w hF hT hv gfP HFP (by omega) (by omega) ghP HSP
theorem reads (os : Os) {H : Type} (enc : TypeId × Value → H) : ∃ places, DataW.whole enc Tryf.prog ((laidWorld os).forCall (fun _ _ => 0) ⟨#[], #[.agg #[.int .u32 0, .int .u32 0, .int .u32 0], .int .u64 0, .int .u64 0, .slice none 0 0], []⟩).memory Tryf.f4.params.toList Rows.fnExactNewRangeSpec.vars false (#[.agg #[.int .u32 0, .int .u32 0, .int .u32 0], .int .u64 0, .int .u64 0, .slice none 0 0] : Array Value).toList 8 = some ([.agg [.lit (.int .u32 0), .lit (.int .u32 0), .lit (.int .u32 0)], .lit (.int .u64 0), .lit (.int .u64 0), .nil], [], places) :=
  ⟨[], by kernel_rfl⟩
set_option maxRecDepth 100000 in
theorem contract (F : Stop.Interp) (H : Type) (enc : TypeId × Value → H) (W : World) (base : Nat) (args : Array Value) (ds gs : List (DataW H)) (before : List MemPlace) (hF : F.told.answers W.tape)
    (hval0 : ∀ (j : Nat) t v, Tryf.f4.params[j]? = some t → args[j]? = some v → Value.okWide Tryf.prog W .any base t v)
    (hW : DataW.Whole enc Tryf.prog Tryf.f4.params.toList Rows.fnExactNewRangeSpec.vars false W args.toList ds gs before) (hL : laidMetH Tryf.prog Rows.fnExactNewRangeRow.laid W) :
    Calls Tryf.prog 4 args W fun e W' => ∃ v, e = .returned v ∧ ((OpenSpec.ofChange Rows.fnExactNewRangeSpec).at F.told).post enc Tryf.prog Tryf.f4 false true false false W args v W' := by
  have hval : ∀ (j : Nat) t v, Tryf.f4.params[j]? = some t → args[j]? = some v → Value.okWide Tryf.prog W .any base t v := hval0
  have hW' := hW
  obtain ⟨p, q, hA0, hV, rfl, hfz, hnd⟩ := hW
  have hA : DataW.TrodAll enc Tryf.prog W 0 (fun _ => true) true Tryf.f4.params.toList args.toList ds p := hA0
  rw [Tryf.params4] at hA hval
  obtain ⟨v0, vs0, d0, ds0, p0, q0, hargs, rfl, rfl, h0, r0⟩ := trodAll_cons hA
  obtain ⟨v1, vs1, d1, ds1, p1, q1, rfl, rfl, rfl, h1, r1⟩ := trodAll_cons r0
  obtain ⟨v2, vs2, d2, ds2, p2, q2, rfl, rfl, rfl, h2, r2⟩ := trodAll_cons r1
  obtain ⟨v3, vs3, d3, ds3, p3, q3, rfl, rfl, rfl, h3, r3⟩ := trodAll_cons r2
  obtain ⟨rfl, rfl, rfl⟩ := trodAll_nil r3
  obtain rfl : args = #[v0, v1, v2, v3] := by cases args; simp_all
  obtain ⟨rfl, rfl⟩ := trodVars_none hV
  have k0 := h0
  have lt0 : ∀ x ∈ p0, x.block < W.heap.size := by obtain ⟨m, hm⟩ := k0; exact DataW.trod_lt m _ _ _ hm
  obtain ⟨hh0, rfl, w0⟩ := openHash (hval 0 24 v0 rfl rfl) h0
  have k1 := h1
  have lt1 : ∀ x ∈ p1, x.block < W.heap.size := by obtain ⟨m, hm⟩ := k1; exact DataW.trod_lt m _ _ _ hm
  obtain ⟨a1, rfl, hd1, hp1, w1⟩ := open_int Tryf.underlying27 (hval 1 27 v1 rfl rfl) h1
  have k2 := h2
  have lt2 : ∀ x ∈ p2, x.block < W.heap.size := by obtain ⟨m, hm⟩ := k2; exact DataW.trod_lt m _ _ _ hm
  obtain ⟨a2, rfl, hd2, hp2, w2⟩ := open_int Tryf.underlying27 (hval 2 27 v2 rfl rfl) h2
  have k3 := h3
  have lt3 : ∀ x ∈ p3, x.block < W.heap.size := by obtain ⟨m, hm⟩ := k3; exact DataW.trod_lt m _ _ _ hm
  obtain ⟨L3, w3⟩ := openHashes (hval 3 25 v3 rfl rfl) h3
  refine (walk F.told W hF hh0 w0 a1 (bound_u64 w1) a2 (bound_u64 w2) v3 L3 w3 (laidIs_of hL)).mono fun e W' ⟨he, bel⟩ => ?_
  subst he
  exact ⟨_, rfl, _, _, _, [], _, [], hW', trodAll_mk1 (shut_bool Tryf.underlying4 _), (trodAll_cons_mk (Below.trod laidOut (by kernel_rfl) (of_decide_eq_true (by kernel_rfl)) k0 bel lt0) (trodAll_cons_mk (Below.trod laidOut (by kernel_rfl) (of_decide_eq_true (by kernel_rfl)) k1 bel lt1) (trodAll_cons_mk (Below.trod laidOut (by kernel_rfl) (of_decide_eq_true (by kernel_rfl)) k2 bel lt2) (trodAll_cons_mk (Below.trod laidOut (by kernel_rfl) (of_decide_eq_true (by kernel_rfl)) k3 bel lt3) trodAll_mk0)))), rfl, bel.frame _, fun h => by cases h⟩
set_option maxRecDepth 100000 in
theorem lifted (os : Os) (started : os.Started) (H : Type) (enc : TypeId × Value → H) :
    ReturnsInTold none {} Tryf.checked os 4 .any Input.okWide ((OpenSpec.ofChange Rows.fnExactNewRangeSpec).preRow enc Tryf.prog Tryf.f4 Rows.fnExactNewRangeRow.domain false Rows.fnExactNewRangeRow.laid) (fun F => ((OpenSpec.ofChange Rows.fnExactNewRangeSpec).at F).post enc Tryf.prog Tryf.f4 false true false false) (aloneAtReturn Tryf.prog) nothingAlways := by
  obtain ⟨places, hx⟩ := reads os enc
  refine returnsInTold_of_row (C := Tryf.checked) (s := OpenSpec.ofChange Rows.fnExactNewRangeSpec) mayEnter own started (by kernel_rfl) Tryf.func4
    (OpenSpec.witness_stopped_at (enc := enc) (C := Tryf.checked) false (laidWorld os) #[.agg #[.int .u32 0, .int .u32 0, .int .u32 0], .int .u64 0, .int .u64 0, .slice none 0 0] rfl (by kernel_rfl) (by kernel_rfl) (by kernel_rfl)
      (OpenSpec.preRow_of_cond 8 hx (by kernel_rfl) (fun k hk => by cases hk) (by kernel_rfl) (laid_met os #[.agg #[.int .u32 0, .int .u32 0, .int .u32 0], .int .u64 0, .int .u64 0, .slice none 0 0]))) ?_
  intro F W base args ds gs before _ hF hval hW _ _ _ hL _
  exact contract F H enc W base args ds gs before hF hval hW hL
theorem proved : Rows.FnExactNewRangeToldSaid :=
  Claim7.holds_of_told_tied_any_at .later 4 Tryf.f4 "fmt.errorf" [] [] _ _ _ _ _ (by kernel_rfl) rfl rfl rfl laidOut (by kernel_rfl) rfl ⟨rfl, rfl, rfl, rfl, rfl, rfl, rfl⟩ rfl rfl (by kernel_rfl) (by kernel_rfl) Tryf.func4 (by kernel_rfl)
    (of_decide_eq_true (by kernel_rfl)) (by unfold Func.isWrapper; first | (rw [if_pos (by decide +kernel)]; kernel_rfl) | (rw [if_neg (by decide +kernel)]; exact ⟨rfl, rfl⟩)) stopsAre.symm rfl stopKnobs.symm (by kernel_rfl)
    (by kernel_rfl) (by kernel_rfl) (by kernel_rfl) (by kernel_rfl) (by kernel_rfl) (by kernel_rfl) (by kernel_rfl) (by kernel_rfl) (by kernel_rfl) rfl (by kernel_rfl) rfl rfl
    rfl rfl
    rfl mainIs (by kernel_rfl) (by kernel_rfl) (by decide) (by kernel_rfl) fnExactNewRange_row_tie
    (OpenClaim.moreEntering_of mayEnter (by kernel_rfl) (by kernel_rfl) (by kernel_rfl) (by kernel_rfl) (by kernel_rfl) (by kernel_rfl) (by kernel_rfl) liftsFinal.symm make)
    ⟨_, WideRow.started_initial, quiet _⟩
    (fun os started _ H enc _ => lifted os started H enc)
end Go.Proofs.YtpdmmmcelkinjaaFmt.fnExactNewRange
