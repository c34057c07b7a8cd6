/- From 0 on the root is that of the tree of the leaves; of no leaves there is none, and no error. -/
import Derived.Test.YtpdmmmcelkinjaaFmtImplApp
import Derived.Test.YtpdmmmcelkinjaaFmtWorks
import Derived.Test.YtpdmmmcelkinjaaFmtMthW
import Derived.Test.YtpdmmmcelkinjaaFmtOpenH
namespace Go.Proofs.YtpdmmmcelkinjaaFmt.fnAppendRoot
open Go.ChangeShapes Go.WideShapes Go.ChangeAt Go.RowKit
set_option maxRecDepth 100000
abbrev SA (w : World) (g3 : Nat) (x1 x2 x3 rv v : Value) (R : List Nat) (P : List (List Nat)) (w' : World) : Prop := w'.cell? ⟨w.heap.size, 0, none⟩ = some x1 ∧ w'.cell? ⟨w.heap.size, 1, none⟩ = some x2 ∧ w'.cell? ⟨w.heap.size, 2, none⟩ = some x3 ∧ w'.cell? ⟨g3, 3, none⟩ = some rv ∧ w'.cell? ⟨g3, 4, none⟩ = some (.bool true) ∧ BytesR w' rv R ∧ HashesR w' v P ∧ Below w.heap.size w w'
theorem keepA {w W w' : World} {g3 : Nat} {x1 x2 x3 rv v : Value} {R : List Nat} {P : List (List Nat)} (hb : Below W.heap.size W w') (h : SA w g3 x1 x2 x3 rv v R P W) : SA w g3 x1 x2 x3 rv v R P w' :=
  have up : ∀ {p : Addr} {v : Value}, W.cell? p = some v → w'.cell? p = some v := fun {p} {_} h => (hb.cell (World.block_lt_of_cell? W p h)).trans h
  ⟨up h.1, up h.2.1, up h.2.2.1, up h.2.2.2.1, up h.2.2.2.2.1, h.2.2.2.2.2.1.below hb, h.2.2.2.2.2.2.1.below hb, h.2.2.2.2.2.2.2.trans (hb.mono h.2.2.2.2.2.2.2.size)⟩
set_option maxHeartbeats 8000000 in
theorem main (F : Stop.Interp) (h : Pl.HF) (ok : h.ok) (Av : Option Addr) (cv : Nat) (P : List (List Nat)) (w : World) (hF : F.answers w.tape) (hT : Tab w) (hv : HashesR w (.slice Av P.length cv) P) (gfP : Fits P) (HFP : Hid (∀ W, Below w.heap.size w W → Calls Tryf.prog 14 #[.slice Av P.length cv] W fun e w' => e = .returned (.bool true) ∧ W = w')) (hn : P.length ≤ 200) (h2 : ∀ x ∈ P, x.length = 2) (HEP : P.length ≠ 0 → Hid (∀ W, Below w.heap.size w W → Calls Tryf.prog 15 #[.slice Av P.length cv] W fun e w' => e = .returned (.bool true) ∧ W = w')) :
    Calls Tryf.prog 6 #[hashV h, .slice Av P.length cv] w fun e w' => e = .returned (.bool true) ∧ Below w.heap.size w w' := by
  have HB := Lib.hid (fun C => (Below.refl w.heap.size w).alloc (Nat.le_refl _) (.cells C 24))
  have HAP := Lib.hid (fun W (hW : Below w.heap.size w W) => append_d F h ok 0 (.slice Av P.length cv) P W (ans_below hF hW) (hv.below hW) h2 (by omega) (by omega) (hT.below hW))
  have HV := Lib.hid hv
  have HT := Lib.hid hT
  have HF := Lib.hid hF
  have HOK := Lib.hid ok
  have H22 := Lib.hid h2
  have HGF := Lib.hid gfP
  have HN := Lib.hid hn
  have HM := Lib.hid (fun W (hW : HashesR W (.slice Av P.length cv) P) (h1 : 1 ≤ P.length) => mth_c h ok (.slice Av P.length cv) P W h1 (by omega) hW)
  have HRM := Lib.hid (fun (h1 : 1 ≤ P.length) => rootAt_mth h P h1 (by omega))
  have hn1 : (P.length : Int) ≤ 200 := by omega
  clear hv hT hF ok h2 gfP
  by_cases h0 : P.length = 0
  · have hz : (P.length : Int) = 0 := by omega
    have hz1 : ¬ (0 : Int) < (P.length : Int) := by omega
    clear HEP h0 hn
    generalize hnn : P.length = n at *
    have HNN := Lib.hid hnn
    clear hnn
    obtain rfl : n = 0 := by omega
    clear hz hz1 hn1
    obtain ⟨Ah, Bh, Ch⟩ := h
    unfold hashV
    go_enter Tryf.func6, Tryf.ntmps6
    go_wp2_with fail
    refine (HFP.out _ (HB.out _)).mono ?_; rintro e w' ⟨rfl, rfl⟩
    go_wp2_with fail
    refine (HAP.out _ (HB.out _)).mono ?_; rintro r w3 ⟨A2, Ar, A6, A7, c2, nr, cr, c6, c7, nH, nG, nE, e, kb, H, R, G, E, rfl, HEQ, HK, hb3⟩
    have HKH : Hid (Blk w3 w.heap.size 24 #[.int .u32 (Ah : Int), .int .u32 (Bh : Int), .int .u32 (Ch : Int)]) := Lib.hid ((Blk.new w _ _).below' hb3)
    have HB3 := Lib.hid ((HB.out _).trans (hb3.mono (HB.out _).size))
    clear hb3
    have e1 : kb = true := by rw [HEQ.out.2.1]; rfl
    subst e1
    obtain rfl : nr = 0 := by
      have h1 := HEQ.out.2.2.1
      rw [ph_empty] at h1
      have h2 := HEQ.out.2.2.2.1
      rw [h1] at h2
      rw [HEQ.out.2.2.2.2.2.2.2.1, h2]
      rfl
    go_wp2_with fail
    go_ret
    exact ⟨rfl, HB3.out.alloc HB3.out.size _⟩
  · have HE1 := HEP h0
    have hz : ¬ (P.length : Int) = 0 := by omega
    have hz1 : (0 : Int) < (P.length : Int) := by omega
    have hz2 : ((P.length : Int) == 0) = false := beq_eq_false_iff_ne.2 hz
    clear HEP h0 hn
    generalize hnn : P.length = n at *
    have HNN := Lib.hid hnn
    clear hnn
    obtain ⟨Ah, Bh, Ch⟩ := h
    unfold hashV
    go_enter Tryf.func6, Tryf.ntmps6
    go_wp2_with fail
    refine (HFP.out _ (HB.out _)).mono ?_; rintro e w' ⟨rfl, rfl⟩
    go_wp2_with fail
    refine (HE1.out _ (HB.out _)).mono ?_; rintro e w' ⟨rfl, rfl⟩
    go_wp2_with fail
    refine (HAP.out _ (HB.out _)).mono ?_; rintro r w3 ⟨A2, Ar, A6, A7, c2, nr, cr, c6, c7, nH, nG, nE, e, kb, H, R, G, E, rfl, HEQ, HK, hb3⟩
    have HKH : Hid (Blk w3 w.heap.size 24 #[.int .u32 (Ah : Int), .int .u32 (Bh : Int), .int .u32 (Ch : Int)]) := Lib.hid ((Blk.new w _ _).below' hb3)
    have HB3 := Lib.hid ((HB.out _).trans (hb3.mono (HB.out _).size))
    clear hb3
    have e1 : kb = true := by rw [HEQ.out.2.1]; rfl
    subst e1
    have hR : R = Pl.mth ⟨Ah, Bh, Ch⟩ P := by
      have h1 := HEQ.out.2.2.2.1
      rw [HEQ.out.2.2.1] at h1
      rw [h1]
      exact HRM.out (by omega)
    have HM1 := Lib.hid (fun W (hW : HashesR W (.slice Av n cv) P) => HM.out W hW (by omega))
    rw [← hR] at HM1
    have HR2 := Lib.hid hR
    clear hR
    unfold hashV at HM1
    simp only [] at HM1
    go_wp2_with fail
    have BA : Below w3.heap.size w3 (w3.alloc (.cells #[.int .u64 0, .int .u64 (e : Int), .slice A2 nH c2, .slice Ar nr cr, .bool true, .slice A6 nG c6, .slice A7 nE c7] 31)).drew := ((Below.refl _ _).alloc (Nat.le_refl _) _).drew
    have hKH := HKH.out.below' BA
    have S0 : SA w w3.heap.size (.int .u32 (Ah : Int)) (.int .u32 (Bh : Int)) (.int .u32 (Ch : Int)) (.slice Ar nr cr) (.slice Av n cv) R P (w3.alloc (.cells #[.int .u64 0, .int .u64 (e : Int), .slice A2 nH c2, .slice Ar nr cr, .bool true, .slice A6 nG c6, .slice A7 nE c7] 31)).drew := ⟨hKH.cell 0, hKH.cell 1, hKH.cell 2, by simp, by simp, HK.out.2.1.1.below BA, (HV.out.below HB3.out).below BA, HB3.out.trans (BA.mono HB3.out.size)⟩
    have z0 := S0.2.2.2.2.2.1.str
    clear hKH BA
    go_region_held_law (fun w' => w'.cell? ⟨w.heap.size, 0, none⟩ = some (.int .u32 (Ah : Int)) ∧ w'.cell? ⟨w.heap.size, 1, none⟩ = some (.int .u32 (Bh : Int)) ∧ w'.cell? ⟨w.heap.size, 2, none⟩ = some (.int .u32 (Ch : Int)) ∧ w'.cell? ⟨w3.heap.size, 3, none⟩ = some (.slice Ar nr cr) ∧ w'.cell? ⟨w3.heap.size, 4, none⟩ = some (.bool true) ∧ BytesR w' (.slice Ar nr cr) R ∧ HashesR w' (.slice Av n cv) P ∧ Below w.heap.size w w')
      (first | assumption | exact S0 | exact keepA hbm (by assumption) | fail)
      (first
        | (go_at_call 18; refine (HM1.out _ (show SA w w3.heap.size (.int .u32 (Ah : Int)) (.int .u32 (Bh : Int)) (.int .u32 (Ch : Int)) (.slice Ar nr cr) (.slice Av n cv) R P _ by assumption).2.2.2.2.2.2.1).mono ?_; rintro e9 w' ⟨um, rfl, hum, hbm⟩; have z1 := hum.str; have z2 := (S0.2.2.2.2.2.1.below hbm).str)
        | fail)
    all_goals
      have hfin := (show SA w w3.heap.size (.int .u32 (Ah : Int)) (.int .u32 (Bh : Int)) (.int .u32 (Ch : Int)) (.slice Ar nr cr) (.slice Av n cv) R P w' by assumption).2.2.2.2.2.2.2
      go_wp2
      go_ret
      exact ⟨by first | rfl | (simp <;> omega), hfin⟩
set_option maxHeartbeats 4000000 in
theorem walk (F : Stop.Interp) (w : World) (hF : F.answers w.tape) (h : Pl.HF) (ok : h.ok) (v : Value) (P : List (List Nat)) (hv : HashesR w v P) (hT : LaidIs w) :
    Calls Tryf.prog 6 #[hashV h, v] w fun e w' => e = .returned (.bool true) ∧ Below w.heap.size w w' := by
  have HB := Lib.hid (fun C => (Below.refl w.heap.size w).alloc (Nat.le_refl _) (.cells C 24))
  obtain ⟨Av, cv, ev, h9v⟩ := id hv
  clear h9v
  subst ev
  by_cases g0 : ¬ Fits P
  case pos =>
    have HFx : Hid (∀ W, Below w.heap.size w W → Calls Tryf.prog 14 #[.slice Av P.length cv] W fun e w' => e = .returned (.bool false) ∧ W = w') := Lib.hid (fun W hb => (fits1_c (.slice Av P.length cv) P W (hv.below hb)).mono fun _ _ r => r.no g0)
    obtain ⟨Ah, Bh, Ch⟩ := h
    unfold hashV
    clear hT hF hv g0 ok
    go_enter Tryf.func6, Tryf.ntmps6
    go_wp2_with fail
    refine (HFx.out _ (HB.out _)).mono ?_; rintro e w' ⟨rfl, rfl⟩
    go_wp2_with fail
    go_ret
    exact ⟨rfl, HB.out _⟩
  have gfP : Fits P := Classical.not_not.1 g0
  clear g0
  have HFP : Hid (∀ W, Below w.heap.size w W → Calls Tryf.prog 14 #[.slice Av P.length cv] W fun e w' => e = .returned (.bool true) ∧ W = w') := Lib.hid (fun W hb => (fits1_c (.slice Av P.length cv) P W (hv.below hb)).mono fun _ _ r => r.yes gfP)
  by_cases g1 : (200 : Int) < (P.length : Int)
  case pos =>
    obtain ⟨Ah, Bh, Ch⟩ := h
    unfold hashV
    clear hT hF hv gfP ok
    go_enter Tryf.func6, Tryf.ntmps6
    go_wp2_with fail
    refine (HFP.out _ (HB.out _)).mono ?_; rintro e w' ⟨rfl, rfl⟩
    go_wp2_with fail
    go_ret
    exact ⟨rfl, HB.out _⟩
  by_cases g2 : P.length ≠ 0 ∧ ¬ IsLeaves P
  case pos =>
    have HSx : Hid (∀ W, Below w.heap.size w W → Calls Tryf.prog 15 #[.slice Av P.length cv] W fun e w' => e = .returned (.bool false) ∧ W = w') := Lib.hid (fun W hb => (leaves_c (.slice Av P.length cv) P W (hv.below hb) gfP.1).mono fun _ _ r => r.no g2.2)
    have hz1 : (0 : Int) < (P.length : Int) := by have := g2.1; omega
    obtain ⟨Ah, Bh, Ch⟩ := h
    unfold hashV
    clear hT hF hv gfP g2 ok
    go_enter Tryf.func6, Tryf.ntmps6
    go_wp2_with fail
    refine (HFP.out _ (HB.out _)).mono ?_; rintro e w' ⟨rfl, rfl⟩
    go_wp2_with fail
    refine (HSx.out _ (HB.out _)).mono ?_; rintro e w' ⟨rfl, rfl⟩
    go_wp2_with fail
    go_ret
    exact ⟨rfl, HB.out _⟩
  have g3 : P.length = 0 ∨ IsLeaves P := by
    by_cases h0 : P.length = 0
    · exact .inl h0
    · exact .inr (Classical.not_not.1 fun hc => g2 ⟨h0, hc⟩)
  clear g2
  have h2 : ∀ x ∈ P, x.length = 2 := by
    rcases g3 with h0 | h1
    · rw [List.eq_nil_of_length_eq_zero h0]; intro x hx; cases hx
    · exact h1.1
  have HEP : P.length ≠ 0 → Hid (∀ W, Below w.heap.size w W → Calls Tryf.prog 15 #[.slice Av P.length cv] W fun e w' => e = .returned (.bool true) ∧ W = w') := fun h0 => Lib.hid (fun W hb => (leaves_c (.slice Av P.length cv) P W (hv.below hb) gfP.1).mono fun _ _ r => r.yes (g3.resolve_left h0))
  exact main F h ok Av cv P w hF hT hv gfP HFP (by omega) h2 HEP
theorem reads (os : Os) {H : Type} (enc : TypeId × Value → H) : ∃ places, DataW.whole enc Tryf.prog ((laidWorld os).forCall (fun _ _ => 0) ⟨#[], #[.agg #[.int .u32 0, .int .u32 0, .int .u32 0], .slice none 0 0], []⟩).memory Tryf.f6.params.toList Rows.fnAppendRootSpec.vars false (#[.agg #[.int .u32 0, .int .u32 0, .int .u32 0], .slice none 0 0] : Array Value).toList 8 = some ([.agg [.lit (.int .u32 0), .lit (.int .u32 0), .lit (.int .u32 0)], .nil], [], places) :=
  ⟨[], by kernel_rfl⟩
set_option maxRecDepth 100000 in
theorem contract (F : Stop.Interp) (H : Type) (enc : TypeId × Value → H) (W : World) (base : Nat) (args : Array Value) (ds gs : List (DataW H)) (before : List MemPlace) (hF : F.told.answers W.tape)
    (hval0 : ∀ (j : Nat) t v, Tryf.f6.params[j]? = some t → args[j]? = some v → Value.okWide Tryf.prog W .any base t v)
    (hW : DataW.Whole enc Tryf.prog Tryf.f6.params.toList Rows.fnAppendRootSpec.vars false W args.toList ds gs before) (hL : laidMetH Tryf.prog Rows.fnAppendRootRow.laid W) :
    Calls Tryf.prog 6 args W fun e W' => ∃ v, e = .returned v ∧ ((OpenSpec.ofChange Rows.fnAppendRootSpec).at F.told).post enc Tryf.prog Tryf.f6 false true false false W args v W' := by
  have hval : ∀ (j : Nat) t v, Tryf.f6.params[j]? = some t → args[j]? = some v → Value.okWide Tryf.prog W .any base t v := hval0
  have hW' := hW
  obtain ⟨p, q, hA0, hV, rfl, hfz, hnd⟩ := hW
  have hA : DataW.TrodAll enc Tryf.prog W 0 (fun _ => true) true Tryf.f6.params.toList args.toList ds p := hA0
  rw [Tryf.params6] at hA hval
  obtain ⟨v0, vs0, d0, ds0, p0, q0, hargs, rfl, rfl, h0, r0⟩ := trodAll_cons hA
  obtain ⟨v1, vs1, d1, ds1, p1, q1, rfl, rfl, rfl, h1, r1⟩ := trodAll_cons r0
  obtain ⟨rfl, rfl, rfl⟩ := trodAll_nil r1
  obtain rfl : args = #[v0, v1] := by cases args; simp_all
  obtain ⟨rfl, rfl⟩ := trodVars_none hV
  have k0 := h0
  have lt0 : ∀ x ∈ p0, x.block < W.heap.size := by obtain ⟨m, hm⟩ := k0; exact DataW.trod_lt m _ _ _ hm
  obtain ⟨hh0, rfl, w0⟩ := openHash (hval 0 24 v0 rfl rfl) h0
  have k1 := h1
  have lt1 : ∀ x ∈ p1, x.block < W.heap.size := by obtain ⟨m, hm⟩ := k1; exact DataW.trod_lt m _ _ _ hm
  obtain ⟨L1, w1⟩ := openHashes (hval 1 25 v1 rfl rfl) h1
  refine (walk F.told W hF hh0 w0 v1 L1 w1 (laidIs_of hL)).mono fun e W' ⟨he, bel⟩ => ?_
  subst he
  exact ⟨_, rfl, _, _, _, [], _, [], hW', trodAll_mk1 (shut_bool Tryf.underlying4 _), (trodAll_cons_mk (Below.trod laidOut (by kernel_rfl) (of_decide_eq_true (by kernel_rfl)) k0 bel lt0) (trodAll_cons_mk (Below.trod laidOut (by kernel_rfl) (of_decide_eq_true (by kernel_rfl)) k1 bel lt1) trodAll_mk0)), rfl, bel.frame _, fun h => by cases h⟩
set_option maxRecDepth 100000 in
theorem lifted (os : Os) (started : os.Started) (H : Type) (enc : TypeId × Value → H) :
    ReturnsInTold none {} Tryf.checked os 6 .any Input.okWide ((OpenSpec.ofChange Rows.fnAppendRootSpec).preRow enc Tryf.prog Tryf.f6 Rows.fnAppendRootRow.domain false Rows.fnAppendRootRow.laid) (fun F => ((OpenSpec.ofChange Rows.fnAppendRootSpec).at F).post enc Tryf.prog Tryf.f6 false true false false) (aloneAtReturn Tryf.prog) nothingAlways := by
  obtain ⟨places, hx⟩ := reads os enc
  refine returnsInTold_of_row (C := Tryf.checked) (s := OpenSpec.ofChange Rows.fnAppendRootSpec) mayEnter own started (by kernel_rfl) Tryf.func6
    (OpenSpec.witness_stopped_at (enc := enc) (C := Tryf.checked) false (laidWorld os) #[.agg #[.int .u32 0, .int .u32 0, .int .u32 0], .slice none 0 0] rfl (by kernel_rfl) (by kernel_rfl) (by kernel_rfl)
      (OpenSpec.preRow_of_cond 8 hx (by kernel_rfl) (fun k hk => by cases hk) (by kernel_rfl) (laid_met os #[.agg #[.int .u32 0, .int .u32 0, .int .u32 0], .slice none 0 0]))) ?_
  intro F W base args ds gs before _ hF hval hW _ _ _ hL _
  exact contract F H enc W base args ds gs before hF hval hW hL
theorem proved : Rows.FnAppendRootToldSaid :=
  Claim7.holds_of_told_tied_any_at .later 6 Tryf.f6 "fmt.errorf" [] [] _ _ _ _ _ (by kernel_rfl) rfl rfl rfl laidOut (by kernel_rfl) rfl ⟨rfl, rfl, rfl, rfl, rfl, rfl, rfl⟩ rfl rfl (by kernel_rfl) (by kernel_rfl) Tryf.func6 (by kernel_rfl)
    (of_decide_eq_true (by kernel_rfl)) (by unfold Func.isWrapper; first | (rw [if_pos (by decide +kernel)]; kernel_rfl) | (rw [if_neg (by decide +kernel)]; exact ⟨rfl, rfl⟩)) stopsAre.symm rfl stopKnobs.symm (by kernel_rfl)
    (by kernel_rfl) (by kernel_rfl) (by kernel_rfl) (by kernel_rfl) (by kernel_rfl) (by kernel_rfl) (by kernel_rfl) (by kernel_rfl) (by kernel_rfl) rfl (by kernel_rfl) rfl rfl
    rfl rfl
    rfl mainIs (by kernel_rfl) (by kernel_rfl) (by decide) (by kernel_rfl) fnAppendRoot_row_tie
    (OpenClaim.moreEntering_of mayEnter (by kernel_rfl) (by kernel_rfl) (by kernel_rfl) (by kernel_rfl) (by kernel_rfl) (by kernel_rfl) (by kernel_rfl) liftsFinal.symm make)
    ⟨_, WideRow.started_initial, quiet _⟩
    (fun os started _ H enc _ => lifted os started H enc)
end Go.Proofs.YtpdmmmcelkinjaaFmt.fnAppendRoot
