/- The nodes of a consistency proof are perfect trees of leaves that are there. -/
import Derived.Test.YtniodnkejpbheaaFmtTold
import Derived.Test.YtniodnkejpbheaaFmtImplCons
import Derived.Test.YtniodnkejpbheaaFmtWorks
import Derived.Test.YtniodnkejpbheaaFmtWithin
namespace Go.Proofs.YtniodnkejpbheaaFmt.fnConsistencyNodes
open Go.ChangeShapes Go.WideShapes Go.ChangeAt Go.RowKit
set_option maxRecDepth 100000
theorem walkAt (i s : Nat) (hi : 0 < i) (h : i < s) (hs2 : s ≤ 1152921504606846976) (w : World) (hT : Tab w) : Calls Tryf.prog 9 #[.int .u64 (i : Int), .int .u64 (s : Int)] w fun e w' => e = .returned (.bool true) ∧ Below w.heap.size w w' := by
  have hs : s < 18446744073709551616 := by omega
  have h0 := (cl_spec hi h hs).2.1
  have HI := Lib.hid (implCons i s hi h hs w hT)
  have HIN : Hid (∀ p ∈ Pl.consL i s, Pl.ne p ≤ s) := Lib.hid fun p hp => Pl.plan_within h0 hs p (by unfold Pl.consL at hp; split at hp; (· exact List.mem_of_mem_tail hp); (· exact hp))
  have hlen := cons_len hi h hs
  generalize Pl.consL i s = L at HI HIN hlen
  generalize Pl.consB i s = b at HI
  generalize Pl.consE i s = x at HI
  generalize Pl.cl i + Pl.up (Pl.cl i) (Pl.ci i) s = l at HI
  generalize Pl.ephI (Pl.cl i) (Pl.ci i) s = ei at HI
  have hg : ¬ (s : Int) < (i : Int) := by omega
  have hg0 : ¬ (i : Int) < 1 := by omega
  have hg2 : ¬ (1152921504606846976 : Int) < (s : Int) := by omega
  have HS : Hid (s ≤ 1152921504606846976) := hs2
  clear hT h0 hs hs2
  go_enter Tryf.func9, Tryf.ntmps9
  go_wp2_with fail
  refine HI.out.mono ?_; rintro r w1 ⟨v, rfl, hv, hb1⟩
  obtain ⟨A, cap, rfl, _, _⟩ := id hv
  have HV := Lib.hid hv
  have HB := Lib.hid hb1
  clear hv hb1 HI
  go_wp2_with fail
  refine (within_c (.slice A L.length cap) L l ei s b x _ (HV.out.below ((Below.refl _ _).alloc (Nat.le_refl _) _)) HIN.out HS.out hlen).mono ?_
  rintro r w2 ⟨rfl, hb2⟩
  go_wp2_with (go_at_call 18; refine (works_c _).mono ?_; rintro e w' ⟨rfl, hb⟩)
  go_ret
  have B2 : Below w.heap.size w w2 := (HB.out.alloc HB.out.size _).trans (hb2.mono (by have := HB.out.size; simp; omega))
  exact ⟨rfl, B2.trans (Below.mono (by assumption) B2.size)⟩
theorem walkEq (s : Nat) (hi : 0 < s) (hs2 : s ≤ 1152921504606846976) (w : World) : Calls Tryf.prog 9 #[.int .u64 (s : Int), .int .u64 (s : Int)] w fun e w' => e = .returned (.bool true) ∧ Below w.heap.size w w' := by
  have HI := Lib.hid (implSame s w)
  have hg0 : ¬ (s : Int) < 1 := by omega
  have hg2 : ¬ (1152921504606846976 : Int) < (s : Int) := by omega
  have HS : Hid (s ≤ 1152921504606846976) := hs2
  clear hs2
  go_enter Tryf.func9, Tryf.ntmps9
  go_wp2_with fail
  refine HI.out.mono ?_; rintro r w1 ⟨A, cap, rfl, hv, hb1⟩
  have HV := Lib.hid hv
  have HB := Lib.hid hb1
  clear hv hb1 HI
  go_wp2_with fail
  refine (within_c (.slice A 0 cap) [] 0 0 s 0 0 _ (HV.out.below ((Below.refl _ _).alloc (Nat.le_refl _) _)) (fun p hp => by cases hp) HS.out (by simp)).mono ?_
  rintro r w2 ⟨rfl, hb2⟩
  go_wp2_with (go_at_call 18; refine (works_c _).mono ?_; rintro e w' ⟨rfl, hb⟩)
  go_ret
  have B2 : Below w.heap.size w w2 := (HB.out.alloc HB.out.size _).trans (hb2.mono (by have := HB.out.size; simp; omega))
  exact ⟨rfl, B2.trans (Below.mono (by assumption) B2.size)⟩
theorem walk (F : Stop.Interp) (w : World) (_hF : F.answers w.tape) (a0 : Int) (w0 : 0 ≤ a0 ∧ a0 < 18446744073709551616) (a1 : Int) (w1 : 0 ≤ a1 ∧ a1 < 18446744073709551616) (hT : LaidIs w) :
    Calls Tryf.prog 9 #[.int .u64 a0, .int .u64 a1] w fun e w' => e = .returned (.bool true) ∧ Below w.heap.size w w' := by
  obtain ⟨i, rfl⟩ := Int.eq_ofNat_of_zero_le w0.1
  obtain ⟨s, rfl⟩ := Int.eq_ofNat_of_zero_le w1.1
  by_cases hi : 0 < i
  · have hg0 : ¬ (i : Int) < 1 := by omega
    by_cases h : i ≤ s
    · have hg : ¬ (s : Int) < (i : Int) := by omega
      by_cases h2 : s ≤ 1152921504606846976
      · rcases Nat.lt_or_ge i s with h3 | h3
        · exact walkAt i s hi h3 h2 w hT
        · obtain rfl : i = s := by omega
          exact walkEq i hi h2 w
      · have hg2 : (1152921504606846976 : Int) < (s : Int) := by omega
        go_enter Tryf.func9, Tryf.ntmps9
        go_wp2
        go_ret
        exact ⟨rfl, Below.refl _ _⟩
    · have hg : (s : Int) < (i : Int) := by omega
      go_enter Tryf.func9, Tryf.ntmps9
      go_wp2
      go_ret
      exact ⟨rfl, Below.refl _ _⟩
  · have hg0 : (i : Int) < 1 := by omega
    go_enter Tryf.func9, Tryf.ntmps9
    go_wp2
    go_ret
    exact ⟨rfl, Below.refl _ _⟩
theorem reads (os : Os) {H : Type} (enc : TypeId × Value → H) : ∃ places, DataW.whole enc Tryf.prog ((laidWorld os).forCall (fun _ _ => 0) ⟨#[], #[.int .u64 0, .int .u64 0], []⟩).memory Tryf.f9.params.toList Rows.fnConsistencyNodesSpec.vars false (#[.int .u64 0, .int .u64 0] : Array Value).toList 8 = some ([.lit (.int .u64 0), .lit (.int .u64 0)], [], places) :=
  ⟨[], by kernel_rfl⟩
set_option maxRecDepth 100000 in
theorem contract (F : Stop.Interp) (H : Type) (enc : TypeId × Value → H) (W : World) (base : Nat) (args : Array Value) (ds gs : List (DataW H)) (before : List MemPlace) (hF : F.told.answers W.tape)
    (hval0 : ∀ (j : Nat) t v, Tryf.f9.params[j]? = some t → args[j]? = some v → Value.okWide Tryf.prog W .any base t v)
    (hW : DataW.Whole enc Tryf.prog Tryf.f9.params.toList Rows.fnConsistencyNodesSpec.vars false W args.toList ds gs before) (hL : laidMetH Tryf.prog Rows.fnConsistencyNodesRow.laid W) :
    Calls Tryf.prog 9 args W fun e W' => ∃ v, e = .returned v ∧ ((OpenSpec.ofChange Rows.fnConsistencyNodesSpec).at F.told).post enc Tryf.prog Tryf.f9 false true false false W args v W' := by
  have hval : ∀ (j : Nat) t v, Tryf.f9.params[j]? = some t → args[j]? = some v → Value.okWide Tryf.prog W .any base t v := hval0
  have hW' := hW
  obtain ⟨p, q, hA0, hV, rfl, hfz, hnd⟩ := hW
  have hA : DataW.TrodAll enc Tryf.prog W 0 (fun _ => true) true Tryf.f9.params.toList args.toList ds p := hA0
  rw [Tryf.params9] at hA hval
  obtain ⟨v0, vs0, d0, ds0, p0, q0, hargs, rfl, rfl, h0, r0⟩ := trodAll_cons hA
  obtain ⟨v1, vs1, d1, ds1, p1, q1, rfl, rfl, rfl, h1, r1⟩ := trodAll_cons r0
  obtain ⟨rfl, rfl, rfl⟩ := trodAll_nil r1
  obtain rfl : args = #[v0, v1] := by cases args; simp_all
  obtain ⟨rfl, rfl⟩ := trodVars_none hV
  have k0 := h0
  have lt0 : ∀ x ∈ p0, x.block < W.heap.size := by obtain ⟨m, hm⟩ := k0; exact DataW.trod_lt m _ _ _ hm
  obtain ⟨a0, rfl, hd0, hp0, w0⟩ := open_int Tryf.underlying22 (hval 0 22 v0 rfl rfl) h0
  have k1 := h1
  have lt1 : ∀ x ∈ p1, x.block < W.heap.size := by obtain ⟨m, hm⟩ := k1; exact DataW.trod_lt m _ _ _ hm
  obtain ⟨a1, rfl, hd1, hp1, w1⟩ := open_int Tryf.underlying22 (hval 1 22 v1 rfl rfl) h1
  refine (walk F.told W hF a0 (bound_u64 w0) a1 (bound_u64 w1) (laidIs_of hL)).mono fun e W' ⟨he, bel⟩ => ?_
  subst he
  exact ⟨_, rfl, _, _, _, [], _, [], hW', trodAll_mk1 (shut_bool Tryf.underlying4 _), (trodAll_cons_mk (Below.trod laidOut (by kernel_rfl) (of_decide_eq_true (by kernel_rfl)) k0 bel lt0) (trodAll_cons_mk (Below.trod laidOut (by kernel_rfl) (of_decide_eq_true (by kernel_rfl)) k1 bel lt1) trodAll_mk0)), rfl, bel.frame _, fun h => by cases h⟩
set_option maxRecDepth 100000 in
theorem lifted (os : Os) (started : os.Started) (H : Type) (enc : TypeId × Value → H) :
    ReturnsInTold none {} Tryf.checked os 9 .any Input.okWide ((OpenSpec.ofChange Rows.fnConsistencyNodesSpec).preRow enc Tryf.prog Tryf.f9 Rows.fnConsistencyNodesRow.domain false Rows.fnConsistencyNodesRow.laid) (fun F => ((OpenSpec.ofChange Rows.fnConsistencyNodesSpec).at F).post enc Tryf.prog Tryf.f9 false true false false) (aloneAtReturn Tryf.prog) nothingAlways := by
  obtain ⟨places, hx⟩ := reads os enc
  refine returnsInTold_of_row (C := Tryf.checked) (s := OpenSpec.ofChange Rows.fnConsistencyNodesSpec) mayEnter own started (by kernel_rfl) Tryf.func9
    (OpenSpec.witness_stopped_at (enc := enc) (C := Tryf.checked) false (laidWorld os) #[.int .u64 0, .int .u64 0] rfl (by kernel_rfl) (by kernel_rfl) (by kernel_rfl)
      (OpenSpec.preRow_of_cond 8 hx (by kernel_rfl) (fun k hk => by cases hk) (by kernel_rfl) (laid_met os #[.int .u64 0, .int .u64 0]))) ?_
  intro F W base args ds gs before _ hF hval hW _ _ _ hL _
  exact contract F H enc W base args ds gs before hF hval hW hL
theorem proved : Rows.FnConsistencyNodesToldSaid :=
  Claim7.holds_of_told_tied_any_at .later 9 Tryf.f9 "fmt.errorf" [] [] _ _ _ _ _ (by kernel_rfl) rfl rfl rfl laidOut (by kernel_rfl) rfl ⟨rfl, rfl, rfl, rfl, rfl, rfl, rfl⟩ rfl rfl (by kernel_rfl) (by kernel_rfl) Tryf.func9 (by kernel_rfl)
    (of_decide_eq_true (by kernel_rfl)) (by unfold Func.isWrapper; first | (rw [if_pos (by decide +kernel)]; kernel_rfl) | (rw [if_neg (by decide +kernel)]; exact ⟨rfl, rfl⟩)) stopsAre.symm rfl stopKnobs.symm (by kernel_rfl)
    (by kernel_rfl) (by kernel_rfl) (by kernel_rfl) (by kernel_rfl) (by kernel_rfl) (by kernel_rfl) (by kernel_rfl) (by kernel_rfl) (by kernel_rfl) rfl (by kernel_rfl) rfl rfl
    rfl rfl
    rfl mainIs (by kernel_rfl) (by kernel_rfl) (by decide) (by kernel_rfl) fnConsistencyNodes_row_tie
    (OpenClaim.moreEntering_of mayEnter (by kernel_rfl) (by kernel_rfl) (by kernel_rfl) (by kernel_rfl) (by kernel_rfl) (by kernel_rfl) (by kernel_rfl) liftsFinal.symm make)
    ⟨_, WideRow.started_initial, quiet _⟩
    (fun os started _ H enc _ => lifted os started H enc)
end Go.Proofs.YtniodnkejpbheaaFmt.fnConsistencyNodes
