/- Between equal sizes there are no nodes. -/
import Derived.Test.YtniodnkejpbheaaFmtTold
import Derived.Test.YtniodnkejpbheaaFmtConsEq
import Derived.Test.YtniodnkejpbheaaFmtWorks
namespace Go.Proofs.YtniodnkejpbheaaFmt.fnConsistencyEqual
open Go.ChangeShapes Go.WideShapes Go.ChangeAt Go.RowKit
set_option maxRecDepth 100000
theorem implSame (n : Nat) (w : World) : Calls Tryf.prog 21 #[.int .u64 n, .int .u64 n] w fun r w' => ∃ A cap, r = .returned (.tuple #[.agg #[.slice A 0 cap, .int .u64 0, .int .u64 0, .int .i64 0, .int .i64 0], .bool true]) ∧ Below w.heap.size w w' := by
  go_enter Tryf.func21, Tryf.ntmps21
  go_wp2_with fail
  refine (consSame_c n _).mono ?_; rintro r w1 ⟨v, rfl, hv, hb1⟩
  have hv0 := hv
  obtain ⟨A, cap, rfl, _, _⟩ := hv0
  go_wp2_with fail
  have hv1 := hv.below ((Below.refl _ _).alloc (Nat.le_refl w1.heap.size) (.cells #[.slice A 0 cap, .int .i64 0, .int .i64 0, .int .u64 0, .int .u64 0] 57))
  obtain ⟨hc1, hf1, hz1⟩ := bcell hb1
  simp only [World.size_alloc] at hc1 hf1 hz1
  have z1 : w.heap.size < w1.heap.size := by omega
  have B1 : Below w.heap.size w w1 := ((Below.refl _ _).alloc (Nat.le_refl _) _).trans (hb1.mono (by simp))
  clear hb1 hv
  refine (planOf_c (.slice A 0 cap) [] 0 0 0 0 _ hv1 (by simp [Room])).mono ?_; rintro r w2 ⟨v, rfl, hv2, hb2⟩
  obtain ⟨hc2, hf2, hz2⟩ := bcell hb2
  simp only [World.size_alloc] at hc2 hf2 hz2
  have z2 : w.heap.size < w2.heap.size := by omega
  have z3 : w.heap.size < w1.heap.size + 1 := by omega
  have B2 : Below w.heap.size w w2 := (B1.alloc B1.size _).trans (hb2.mono (by simp; omega))
  clear hb2 hv1 B1
  obtain ⟨A2, cap2, rfl, _, _⟩ := hv2
  go_wp2_with fail
  have B5 := ((((B2.setCell (p := ⟨w.heap.size, 0, none⟩) (by simp) (.slice A2 0 cap2)).setCell (p := ⟨w.heap.size, 1, none⟩) (by simp) (.int .u64 0)).setCell (p := ⟨w.heap.size, 2, none⟩) (by simp) (.int .u64 0)).setCell (p := ⟨w.heap.size, 3, none⟩) (by simp) (.int .i64 0)).setCell (p := ⟨w.heap.size, 4, none⟩) (by simp) (.int .i64 0)
  have y1 : ∀ o, w2.cell? ⟨w.heap.size, o, none⟩ = (w.alloc (.cells #[.slice none 0 0, .int .u64 0, .int .u64 0, .int .i64 0, .int .i64 0] 28)).cell? ⟨w.heap.size, o, none⟩ := fun o => by
    rw [hc2 _ _ z3, World.cell?_alloc_past _ _ _ z1, hc1 _ _ (by omega)]
  have k3 : w2.cell? ⟨w.heap.size, 0, none⟩ = some (.slice none 0 0) := by rw [y1]; simp
  have k4 : w2.cell? ⟨w.heap.size, 1, none⟩ = some (.int .u64 0) := by rw [y1]; simp
  have k5 : w2.cell? ⟨w.heap.size, 2, none⟩ = some (.int .u64 0) := by rw [y1]; simp
  have k6 : w2.cell? ⟨w.heap.size, 3, none⟩ = some (.int .i64 0) := by rw [y1]; simp
  have k7 : w2.cell? ⟨w.heap.size, 4, none⟩ = some (.int .i64 0) := by rw [y1]; simp
  exact bodyPost_ret (v := .tuple #[.agg #[.slice A2 0 cap2, .int .u64 0, .int .u64 0, .int .i64 0, .int .i64 0], .bool true]) (by simp [results, Tryf.results21, go_sem, k3, k4, k5, k6, k7]) rfl ⟨_, _, rfl, B5⟩
theorem walkAt (n : Nat) (hn : 0 < n) (w : World) : Calls Tryf.prog 8 #[.int .u64 n] w fun e w' => e = .returned (.bool true) ∧ Below w.heap.size w w' := by
  have hg : ¬ (n : Int) < 1 := by omega
  go_enter Tryf.func8, Tryf.ntmps8
  go_wp2_with fail
  refine (implSame n _).mono ?_; rintro r w1 ⟨A, cap, rfl, hb1⟩
  go_wp2_with (go_at_call 18; refine (works_c _).mono ?_; rintro e w' ⟨rfl, hb⟩)
  go_ret
  exact ⟨rfl, (hb1.alloc hb1.size _).trans (Below.mono (by assumption) (by have := hb1.size; simp; omega))⟩
theorem walk (F : Stop.Interp) (w : World) (_hF : F.answers w.tape) (a0 : Int) (w0 : 0 ≤ a0 ∧ a0 < 18446744073709551616) (_hT : LaidIs w) :
    Calls Tryf.prog 8 #[.int .u64 a0] w fun e w' => e = .returned (.bool true) ∧ Below w.heap.size w w' := by
  obtain ⟨n, rfl⟩ := Int.eq_ofNat_of_zero_le w0.1
  by_cases h0 : n = 0
  · have hg : (n : Int) < 1 := by omega
    go_enter Tryf.func8, Tryf.ntmps8
    go_wp2
    go_ret
    exact ⟨rfl, Below.refl _ _⟩
  · exact walkAt n (by omega) w
theorem reads (os : Os) {H : Type} (enc : TypeId × Value → H) : ∃ places, DataW.whole enc Tryf.prog ((laidWorld os).forCall (fun _ _ => 0) ⟨#[], #[.int .u64 0], []⟩).memory Tryf.f8.params.toList Rows.fnConsistencyEqualSpec.vars false (#[.int .u64 0] : Array Value).toList 8 = some ([.lit (.int .u64 0)], [], places) :=
  ⟨[], by kernel_rfl⟩
set_option maxRecDepth 100000 in
theorem contract (F : Stop.Interp) (H : Type) (enc : TypeId × Value → H) (W : World) (base : Nat) (args : Array Value) (ds gs : List (DataW H)) (before : List MemPlace) (hF : F.told.answers W.tape)
    (hval0 : ∀ (j : Nat) t v, Tryf.f8.params[j]? = some t → args[j]? = some v → Value.okWide Tryf.prog W .any base t v)
    (hW : DataW.Whole enc Tryf.prog Tryf.f8.params.toList Rows.fnConsistencyEqualSpec.vars false W args.toList ds gs before) (hL : laidMetH Tryf.prog Rows.fnConsistencyEqualRow.laid W) :
    Calls Tryf.prog 8 args W fun e W' => ∃ v, e = .returned v ∧ ((OpenSpec.ofChange Rows.fnConsistencyEqualSpec).at F.told).post enc Tryf.prog Tryf.f8 false true false false W args v W' := by
  have hval : ∀ (j : Nat) t v, Tryf.f8.params[j]? = some t → args[j]? = some v → Value.okWide Tryf.prog W .any base t v := hval0
  have hW' := hW
  obtain ⟨p, q, hA0, hV, rfl, hfz, hnd⟩ := hW
  have hA : DataW.TrodAll enc Tryf.prog W 0 (fun _ => true) true Tryf.f8.params.toList args.toList ds p := hA0
  rw [Tryf.params8] at hA hval
  obtain ⟨v0, vs0, d0, ds0, p0, q0, hargs, rfl, rfl, h0, r0⟩ := trodAll_cons hA
  obtain ⟨rfl, rfl, rfl⟩ := trodAll_nil r0
  obtain rfl : args = #[v0] := by cases args; simp_all
  obtain ⟨rfl, rfl⟩ := trodVars_none hV
  have k0 := h0
  have lt0 : ∀ x ∈ p0, x.block < W.heap.size := by obtain ⟨m, hm⟩ := k0; exact DataW.trod_lt m _ _ _ hm
  obtain ⟨a0, rfl, hd0, hp0, w0⟩ := open_int Tryf.underlying22 (hval 0 22 v0 rfl rfl) h0
  refine (walk F.told W hF a0 (bound_u64 w0) (laidIs_of hL)).mono fun e W' ⟨he, bel⟩ => ?_
  subst he
  exact ⟨_, rfl, _, _, _, [], _, [], hW', trodAll_mk1 (shut_bool Tryf.underlying4 _), (trodAll_cons_mk (Below.trod laidOut (by kernel_rfl) (of_decide_eq_true (by kernel_rfl)) k0 bel lt0) trodAll_mk0), rfl, bel.frame _, fun h => by cases h⟩
set_option maxRecDepth 100000 in
theorem lifted (os : Os) (started : os.Started) (H : Type) (enc : TypeId × Value → H) :
    ReturnsInTold none {} Tryf.checked os 8 .any Input.okWide ((OpenSpec.ofChange Rows.fnConsistencyEqualSpec).preRow enc Tryf.prog Tryf.f8 Rows.fnConsistencyEqualRow.domain false Rows.fnConsistencyEqualRow.laid) (fun F => ((OpenSpec.ofChange Rows.fnConsistencyEqualSpec).at F).post enc Tryf.prog Tryf.f8 false true false false) (aloneAtReturn Tryf.prog) nothingAlways := by
  obtain ⟨places, hx⟩ := reads os enc
  refine returnsInTold_of_row (C := Tryf.checked) (s := OpenSpec.ofChange Rows.fnConsistencyEqualSpec) mayEnter own started (by kernel_rfl) Tryf.func8
    (OpenSpec.witness_stopped_at (enc := enc) (C := Tryf.checked) false (laidWorld os) #[.int .u64 0] rfl (by kernel_rfl) (by kernel_rfl) (by kernel_rfl)
      (OpenSpec.preRow_of_cond 8 hx (by kernel_rfl) (fun k hk => by cases hk) (by kernel_rfl) (laid_met os #[.int .u64 0]))) ?_
  intro F W base args ds gs before _ hF hval hW _ _ _ hL _
  exact contract F H enc W base args ds gs before hF hval hW hL
theorem proved : Rows.FnConsistencyEqualToldSaid :=
  Claim7.holds_of_told_tied_any_at .later 8 Tryf.f8 "fmt.errorf" [] [] _ _ _ _ _ (by kernel_rfl) rfl rfl rfl laidOut (by kernel_rfl) rfl ⟨rfl, rfl, rfl, rfl, rfl, rfl, rfl⟩ rfl rfl (by kernel_rfl) (by kernel_rfl) Tryf.func8 (by kernel_rfl)
    (of_decide_eq_true (by kernel_rfl)) (by unfold Func.isWrapper; first | (rw [if_pos (by decide +kernel)]; kernel_rfl) | (rw [if_neg (by decide +kernel)]; exact ⟨rfl, rfl⟩)) stopsAre.symm rfl stopKnobs.symm (by kernel_rfl)
    (by kernel_rfl) (by kernel_rfl) (by kernel_rfl) (by kernel_rfl) (by kernel_rfl) (by kernel_rfl) (by kernel_rfl) (by kernel_rfl) (by kernel_rfl) rfl (by kernel_rfl) rfl rfl
    rfl rfl
    rfl mainIs (by kernel_rfl) (by kernel_rfl) (by decide) (by kernel_rfl) fnConsistencyEqual_row_tie
    (OpenClaim.moreEntering_of mayEnter (by kernel_rfl) (by kernel_rfl) (by kernel_rfl) (by kernel_rfl) (by kernel_rfl) (by kernel_rfl) (by kernel_rfl) liftsFinal.symm make)
    ⟨_, WideRow.started_initial, quiet _⟩
    (fun os started _ H enc _ => lifted os started H enc)
end Go.Proofs.YtniodnkejpbheaaFmt.fnConsistencyEqual
