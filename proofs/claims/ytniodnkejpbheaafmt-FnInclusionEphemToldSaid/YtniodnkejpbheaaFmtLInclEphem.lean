/- The nodes from Begin to End are those of the part of the tree that the ephemeral node covers. -/
import Derived.Test.YtniodnkejpbheaaFmtTold
import Derived.Test.YtniodnkejpbheaaFmtImplPlan
import Derived.Test.YtniodnkejpbheaaFmtWorks
import Derived.Test.YtniodnkejpbheaaFmtEphem2
import Derived.Test.YtniodnkejpbheaaFmtSplit
import Derived.Deep.RegionHeld3
namespace Go.Proofs.YtniodnkejpbheaaFmt.fnInclusionEphem
open Go.ChangeShapes Go.WideShapes Go.ChangeAt Go.RowKit
set_option maxRecDepth 100000
/-- What the last statement of the law keeps: the plan in its variable. -/
abbrev Keep (gp : Nat) (A : Option Addr) (L : List (Nat × Nat)) (cap l ei b x : Nat) (w w' : World) : Prop :=
  w'.cell? ⟨gp, 0, none⟩ = some (.slice A L.length cap) ∧ w'.cell? ⟨gp, 1, none⟩ = some (.int .u64 (l : Int)) ∧ w'.cell? ⟨gp, 2, none⟩ = some (.int .u64 (ei : Int)) ∧ w'.cell? ⟨gp, 3, none⟩ = some (.int .i64 (b : Int)) ∧ w'.cell? ⟨gp, 4, none⟩ = some (.int .i64 (x : Int)) ∧
  NodesR w' (.slice A L.length cap) L ∧ Below w.heap.size w w'
theorem keepAt {gp : Nat} {A : Option Addr} {L : List (Nat × Nat)} {cap l ei b x : Nat} {w w' : World} {t : TypeId} (h : Blk w' gp t #[.slice A L.length cap, .int .u64 (l : Int), .int .u64 (ei : Int), .int .i64 (b : Int), .int .i64 (x : Int)]) (hv : NodesR w' (.slice A L.length cap) L) (hb : Below w.heap.size w w') :
    Keep gp A L cap l ei b x w w' := ⟨h.cell 0, h.cell 1, h.cell 2, h.cell 3, h.cell 4, hv, hb⟩
theorem Keep.next {gp : Nat} {A : Option Addr} {L : List (Nat × Nat)} {cap l ei b x : Nat} {w w' w'' : World} (h : Keep gp A L cap l ei b x w w') (hb : Below w'.heap.size w' w'') : Keep gp A L cap l ei b x w w'' :=
  have up : ∀ {p : Addr} {v : Value}, w'.cell? p = some v → w''.cell? p = some v := fun {p} {_} h => (hb.cell (World.block_lt_of_cell? w' p h)).trans h
  ⟨up h.1, up h.2.1, up h.2.2.1, up h.2.2.2.1, up h.2.2.2.2.1, h.2.2.2.2.2.1.below hb, h.2.2.2.2.2.2.trans (hb.mono h.2.2.2.2.2.2.size)⟩
theorem Keep.nodes {gp : Nat} {A : Option Addr} {L : List (Nat × Nat)} {cap l ei b x : Nat} {w w' : World} (h : Keep gp A L cap l ei b x w w') : NodesR w' (.slice A L.length cap) L := h.2.2.2.2.2.1
theorem Keep.frame {gp : Nat} {A : Option Addr} {L : List (Nat × Nat)} {cap l ei b x : Nat} {w w' : World} (h : Keep gp A L cap l ei b x w w') : Below w.heap.size w w' := h.2.2.2.2.2.2
theorem walkAt (i s : Nat) (h : i < s) (hs2 : s ≤ 1152921504606846976) (w : World) (hT : Tab w) : Calls Tryf.prog 3 #[.int .u64 (i : Int), .int .u64 (s : Int)] w fun e w' => e = .returned (.bool true) ∧ Below w.heap.size w w' := by
  have hs : s < 18446744073709551616 := by omega
  have h0 : i < s / 2 ^ 0 := by simpa using h
  have HI := Lib.hid (implIncl i s h hs w hT)
  have hd := Pl.dirs_le h hs
  have hm : (Pl.dirs i s).length = (Pl.sibs 0 i (Pl.up 0 i s)).length + (Pl.mid 0 i s).length + (Pl.pieces 0 (Pl.fbeg 0 i (Pl.up 0 i s))).length := by
    rw [← Pl.sides_length i s 0, Pl.sides_parts h hs]; simp; omega
  have hu := (Pl.up_spec h0 hs).1
  have HE := Lib.hid (fun v w hv => ephem_any 0 i s h0 hs2 (Pl.sibs 0 i (Pl.up 0 i s)) (Pl.planL 0 i s).tail (sk (Pl.planB 0 i s) (Pl.planE 0 i s)) (skE (Pl.planB 0 i s) (Pl.planE 0 i s)) (Pl.dirs i s).length (by rw [Pl.sibs_length]; omega) (by unfold Pl.planL; simp)
    (by rw [Pl.sibs_length]; exact (sk_plan 0 i s).1) (by rw [Pl.sibs_length]; exact (sk_plan 0 i s).2) hm v w hv)
  have HPL := Lib.hid (fun w => pathLength_c i s h hs w)
  generalize (Pl.planL 0 i s).tail = L at HI HE
  generalize sk (Pl.planB 0 i s) (Pl.planE 0 i s) = b at HI HE
  generalize skE (Pl.planB 0 i s) (Pl.planE 0 i s) = x at HI HE
  generalize 0 + Pl.up 0 i s = l at HI HE
  generalize Pl.ephI 0 i s = ei at HI HE
  generalize (Pl.dirs i s).length = many at HE HPL
  clear hd hm hu
  have hg : ¬ (s : Int) ≤ (i : Int) := by omega
  have hg2 : ¬ (1152921504606846976 : Int) < (s : Int) := by omega
  clear hT h0 hs hs2
  go_enter Tryf.func3, Tryf.ntmps3
  go_wp2_with fail
  refine HI.out.mono ?_; rintro r w1 ⟨v, rfl, hv, hb1⟩
  obtain ⟨A, cap, rfl, _, _⟩ := id hv
  have HV := Lib.hid hv
  have HB := Lib.hid hb1
  clear hv hb1 HI
  go_wp2_with fail
  have B0 : Below w.heap.size w (w1.alloc (.cells #[.slice A L.length cap, .int .u64 (l : Int), .int .u64 (ei : Int), .int .i64 (b : Int), .int .i64 (x : Int)] 28)) := HB.out.alloc HB.out.size _
  have V0 := HV.out.below ((Below.refl _ _).alloc (Nat.le_refl _) (.cells #[.slice A L.length cap, .int .u64 (l : Int), .int .u64 (ei : Int), .int .i64 (b : Int), .int .i64 (x : Int)] 28))
  have K0 : Blk (w1.alloc (.cells #[.slice A L.length cap, .int .u64 (l : Int), .int .u64 (ei : Int), .int .i64 (b : Int), .int .i64 (x : Int)] 28)) w1.heap.size 28 #[.slice A L.length cap, .int .u64 (l : Int), .int .u64 (ei : Int), .int .i64 (b : Int), .int .i64 (x : Int)] := Blk.new _ _ _
  generalize w1.alloc (.cells #[.slice A L.length cap, .int .u64 (l : Int), .int .u64 (ei : Int), .int .i64 (b : Int), .int .i64 (x : Int)] 28) = w2 at B0 V0 K0 ⊢
  generalize w1.heap.size = gp at K0 ⊢
  have K1 := Lib.hid K0
  have V1 := Lib.hid V0
  have HB0 := Lib.hid B0
  obtain ⟨r1, r2, r3, r4, r5, _⟩ := K0.five
  clear HB HV K0 V0 B0
  go_region_held3 (fun w' => w'.cell? ⟨gp, 0, none⟩ = some (.slice A L.length cap) ∧ w'.cell? ⟨gp, 1, none⟩ = some (.int .u64 (l : Int)) ∧ w'.cell? ⟨gp, 2, none⟩ = some (.int .u64 (ei : Int)) ∧ w'.cell? ⟨gp, 3, none⟩ = some (.int .i64 (b : Int)) ∧ w'.cell? ⟨gp, 4, none⟩ = some (.int .i64 (x : Int)) ∧ NodesR w' (.slice A L.length cap) L ∧ Below w.heap.size w w')
    (first | assumption | exact keepAt K1.out.drew V1.out HB0.out.drew | exact Keep.next (l := l) (ei := ei) (b := b) (x := x) (by assumption) hb)
    (first | (go_at_call 17; refine (HPL.out _).mono ?_; rintro e w' ⟨rfl, rfl⟩) | (go_at_call 16; refine (HE.out (.slice A L.length cap) _ (by assumption)).mono ?_; rintro e w' ⟨rfl, hb⟩) | (go_at_call 18; refine (works_c _).mono ?_; rintro e w' ⟨rfl, hb⟩))
  all_goals
    have hfin : Below w.heap.size w w' := by
      have hk : Keep gp A L cap l ei b x w w' := by assumption
      exact hk.frame
    go_wp2
    go_ret
    exact ⟨rfl, hfin⟩
theorem walk (F : Stop.Interp) (w : World) (_hF : F.answers w.tape) (a0 : Int) (w0 : 0 ≤ a0 ∧ a0 < 18446744073709551616) (a1 : Int) (w1 : 0 ≤ a1 ∧ a1 < 18446744073709551616) (hT : LaidIs w) :
    Calls Tryf.prog 3 #[.int .u64 a0, .int .u64 a1] w fun e w' => e = .returned (.bool true) ∧ Below w.heap.size w w' := by
  obtain ⟨i, rfl⟩ := Int.eq_ofNat_of_zero_le w0.1
  obtain ⟨s, rfl⟩ := Int.eq_ofNat_of_zero_le w1.1
  by_cases h : i < s
  · by_cases h2 : s ≤ 1152921504606846976
    · exact walkAt i s h h2 w hT
    · have hg : ¬ (s : Int) ≤ (i : Int) := by omega
      have hg2 : (1152921504606846976 : Int) < (s : Int) := by omega
      go_enter Tryf.func3, Tryf.ntmps3
      go_wp2
      go_ret
      exact ⟨rfl, Below.refl _ _⟩
  · have hg : (s : Int) ≤ (i : Int) := by omega
    go_enter Tryf.func3, Tryf.ntmps3
    go_wp2
    go_ret
    exact ⟨rfl, Below.refl _ _⟩
theorem reads (os : Os) {H : Type} (enc : TypeId × Value → H) : ∃ places, DataW.whole enc Tryf.prog ((laidWorld os).forCall (fun _ _ => 0) ⟨#[], #[.int .u64 0, .int .u64 0], []⟩).memory Tryf.f3.params.toList Rows.fnInclusionEphemSpec.vars false (#[.int .u64 0, .int .u64 0] : Array Value).toList 8 = some ([.lit (.int .u64 0), .lit (.int .u64 0)], [], places) :=
  ⟨[], by kernel_rfl⟩
set_option maxRecDepth 100000 in
theorem contract (F : Stop.Interp) (H : Type) (enc : TypeId × Value → H) (W : World) (base : Nat) (args : Array Value) (ds gs : List (DataW H)) (before : List MemPlace) (hF : F.told.answers W.tape)
    (hval0 : ∀ (j : Nat) t v, Tryf.f3.params[j]? = some t → args[j]? = some v → Value.okWide Tryf.prog W .any base t v)
    (hW : DataW.Whole enc Tryf.prog Tryf.f3.params.toList Rows.fnInclusionEphemSpec.vars false W args.toList ds gs before) (hL : laidMetH Tryf.prog Rows.fnInclusionEphemRow.laid W) :
    Calls Tryf.prog 3 args W fun e W' => ∃ v, e = .returned v ∧ ((OpenSpec.ofChange Rows.fnInclusionEphemSpec).at F.told).post enc Tryf.prog Tryf.f3 false true false false W args v W' := by
  have hval : ∀ (j : Nat) t v, Tryf.f3.params[j]? = some t → args[j]? = some v → Value.okWide Tryf.prog W .any base t v := hval0
  have hW' := hW
  obtain ⟨p, q, hA0, hV, rfl, hfz, hnd⟩ := hW
  have hA : DataW.TrodAll enc Tryf.prog W 0 (fun _ => true) true Tryf.f3.params.toList args.toList ds p := hA0
  rw [Tryf.params3] at hA hval
  obtain ⟨v0, vs0, d0, ds0, p0, q0, hargs, rfl, rfl, h0, r0⟩ := trodAll_cons hA
  obtain ⟨v1, vs1, d1, ds1, p1, q1, rfl, rfl, rfl, h1, r1⟩ := trodAll_cons r0
  obtain ⟨rfl, rfl, rfl⟩ := trodAll_nil r1
  obtain rfl : args = #[v0, v1] := by cases args; simp_all
  obtain ⟨rfl, rfl⟩ := trodVars_none hV
  have k0 := h0
  have lt0 : ∀ x ∈ p0, x.block < W.heap.size := by obtain ⟨m, hm⟩ := k0; exact DataW.trod_lt m _ _ _ hm
  obtain ⟨a0, rfl, hd0, hp0, w0⟩ := open_int Tryf.underlying22 (hval 0 22 v0 rfl rfl) h0
  have k1 := h1
  have lt1 : ∀ x ∈ p1, x.block < W.heap.size := by obtain ⟨m, hm⟩ := k1; exact DataW.trod_lt m _ _ _ hm
  obtain ⟨a1, rfl, hd1, hp1, w1⟩ := open_int Tryf.underlying22 (hval 1 22 v1 rfl rfl) h1
  refine (walk F.told W hF a0 (bound_u64 w0) a1 (bound_u64 w1) (laidIs_of hL)).mono fun e W' ⟨he, bel⟩ => ?_
  subst he
  exact ⟨_, rfl, _, _, _, [], _, [], hW', trodAll_mk1 (shut_bool Tryf.underlying4 _), (trodAll_cons_mk (Below.trod laidOut (by kernel_rfl) (of_decide_eq_true (by kernel_rfl)) k0 bel lt0) (trodAll_cons_mk (Below.trod laidOut (by kernel_rfl) (of_decide_eq_true (by kernel_rfl)) k1 bel lt1) trodAll_mk0)), rfl, bel.frame _, fun h => by cases h⟩
set_option maxRecDepth 100000 in
theorem lifted (os : Os) (started : os.Started) (H : Type) (enc : TypeId × Value → H) :
    ReturnsInTold none {} Tryf.checked os 3 .any Input.okWide ((OpenSpec.ofChange Rows.fnInclusionEphemSpec).preRow enc Tryf.prog Tryf.f3 Rows.fnInclusionEphemRow.domain false Rows.fnInclusionEphemRow.laid) (fun F => ((OpenSpec.ofChange Rows.fnInclusionEphemSpec).at F).post enc Tryf.prog Tryf.f3 false true false false) (aloneAtReturn Tryf.prog) nothingAlways := by
  obtain ⟨places, hx⟩ := reads os enc
  refine returnsInTold_of_row (C := Tryf.checked) (s := OpenSpec.ofChange Rows.fnInclusionEphemSpec) mayEnter own started (by kernel_rfl) Tryf.func3
    (OpenSpec.witness_stopped_at (enc := enc) (C := Tryf.checked) false (laidWorld os) #[.int .u64 0, .int .u64 0] rfl (by kernel_rfl) (by kernel_rfl) (by kernel_rfl)
      (OpenSpec.preRow_of_cond 8 hx (by kernel_rfl) (fun k hk => by cases hk) (by kernel_rfl) (laid_met os #[.int .u64 0, .int .u64 0]))) ?_
  intro F W base args ds gs before _ hF hval hW _ _ _ hL _
  exact contract F H enc W base args ds gs before hF hval hW hL
theorem proved : Rows.FnInclusionEphemToldSaid :=
  Claim7.holds_of_told_tied_any_at .later 3 Tryf.f3 "fmt.errorf" [] [] _ _ _ _ _ (by kernel_rfl) rfl rfl rfl laidOut (by kernel_rfl) rfl ⟨rfl, rfl, rfl, rfl, rfl, rfl, rfl⟩ rfl rfl (by kernel_rfl) (by kernel_rfl) Tryf.func3 (by kernel_rfl)
    (of_decide_eq_true (by kernel_rfl)) (by unfold Func.isWrapper; first | (rw [if_pos (by decide +kernel)]; kernel_rfl) | (rw [if_neg (by decide +kernel)]; exact ⟨rfl, rfl⟩)) stopsAre.symm rfl stopKnobs.symm (by kernel_rfl)
    (by kernel_rfl) (by kernel_rfl) (by kernel_rfl) (by kernel_rfl) (by kernel_rfl) (by kernel_rfl) (by kernel_rfl) (by kernel_rfl) (by kernel_rfl) rfl (by kernel_rfl) rfl rfl
    rfl rfl
    rfl mainIs (by kernel_rfl) (by kernel_rfl) (by decide) (by kernel_rfl) fnInclusionEphem_row_tie
    (OpenClaim.moreEntering_of mayEnter (by kernel_rfl) (by kernel_rfl) (by kernel_rfl) (by kernel_rfl) (by kernel_rfl) (by kernel_rfl) (by kernel_rfl) liftsFinal.symm make)
    ⟨_, WideRow.started_initial, quiet _⟩
    (fun os started _ H enc _ => lifted os started H enc)
end Go.Proofs.YtniodnkejpbheaaFmt.fnInclusionEphem
