/- No node of an inclusion proof covers the leaf, and all together cover all other leaves. -/
import Derived.Test.YtniodnkejpbheaaFmtTold
import Derived.Test.YtniodnkejpbheaaFmtImplPlan
import Derived.Test.YtniodnkejpbheaaFmtWorks
import Derived.Test.YtniodnkejpbheaaFmtWithin
namespace Go.Proofs.YtniodnkejpbheaaFmt.fnInclusionOther
open Go.ChangeShapes Go.WideShapes Go.ChangeAt Go.RowKit
set_option maxRecDepth 100000
theorem cover_c {lv iv s : Nat} (h : Pl.ne (lv, iv) ≤ s) (hs : s ≤ 1152921504606846976) (w : World) :
    Calls Tryf.prog 20 #[(.agg #[.int .u64 (lv : Int), .int .u64 (iv : Int)])] w fun e w' => e = .returned (.tuple #[.int .u64 ((Pl.nb (lv, iv) : Nat) : Int), .int .u64 ((Pl.ne (lv, iv) : Nat) : Int)]) ∧ Below w.heap.size w w' := by
  obtain ⟨n1, n2, n3, n4, n5⟩ := node_nums h hs
  have hb : Pl.nb (lv, iv) ≤ Pl.ne (lv, iv) := Nat.mul_le_mul_right _ (Nat.le_add_right _ _)
  have := implCoverage (lv : Int) (iv : Int) (by omega) (by omega) w
  have e1 := wrapN (iv * 2 ^ lv) (by unfold Pl.nb at hb; simp only [] at hb; omega)
  rw [Int.toNat_natCast, n3, n4, show (iv : Int) * 2 ^ lv = ((iv * 2 ^ lv : Nat) : Int) by simp, e1] at this
  exact this
theorem sum_drop (L : List (Nat × Nat)) (k : Nat) (h : k < L.length) : Pl.wsum (L.take (k + 1)) = Pl.wsum (L.take k) + 2 ^ L[k].1 := by
  rw [take_snoc L k h, Pl.wsum_append]; simp [Pl.wsum]
theorem sum_le (L : List (Nat × Nat)) (k : Nat) : Pl.wsum (L.take k) ≤ Pl.wsum L := by
  have := Pl.wsum_append (L.take k) (L.drop k)
  rw [List.take_append_drop] at this
  omega
set_option maxHeartbeats 1000000 in
theorem walkAt (i s : Nat) (h : i < s) (hs2 : s ≤ 1152921504606846976) (w : World) (hT : Tab w) : Calls Tryf.prog 6 #[.int .u64 (i : Int), .int .u64 (s : Int)] w fun e w' => e = .returned (.bool true) ∧ Below w.heap.size w w' := by
  have hs : s < 18446744073709551616 := by omega
  have h0 : i < s / 2 ^ 0 := by simpa using h
  have HI := Lib.hid (implIncl i s h hs w hT)
  have HIN : Hid (∀ p ∈ (Pl.planL 0 i s).tail, Pl.ne p ≤ s ∧ (Pl.ne p ≤ i ∨ i + 1 ≤ Pl.nb p)) := Lib.hid fun p hp => ⟨Pl.plan_within h0 hs p (List.mem_of_mem_tail hp), by simpa using Pl.plan_apart h0 hs p hp⟩
  have hlen : (Pl.planL 0 i s).tail.length ≤ 1000 := by have := Pl.plan_len h0 hs; simp; omega
  have HSum : Hid (Pl.wsum (Pl.planL 0 i s).tail + 1 = s) := Lib.hid (by simpa using Pl.plan_sum h0 hs)
  generalize (Pl.planL 0 i s).tail = L at HI HIN hlen HSum
  generalize sk (Pl.planB 0 i s) (Pl.planE 0 i s) = b at HI
  generalize skE (Pl.planB 0 i s) (Pl.planE 0 i s) = x at HI
  generalize 0 + Pl.up 0 i s = l at HI
  generalize Pl.ephI 0 i s = ei at HI
  have hg : ¬ (s : Int) ≤ (i : Int) := by omega
  have hg2 : ¬ (1152921504606846976 : Int) < (s : Int) := by omega
  have hs60 : s ≤ 1152921504606846976 := hs2
  clear hT h0 hs hs2
  go_enter Tryf.func6, Tryf.ntmps6
  go_wp2_with fail
  refine HI.out.mono ?_; rintro r w1 ⟨v, rfl, hv, hb1⟩
  obtain ⟨A, cap, rfl, hcap, hat⟩ := hv
  have HB := Lib.hid hb1
  clear hb1 HI
  go_wp2_with fail
  go_loopw [7, 28] (fun sv kv wr => ∃ k m : Nat, k ≤ L.length ∧ Hid (m = Pl.wsum (L.take k)) ∧ sv = .int .u64 (m : Int) ∧ kv = .int .i64 k ∧ Below w1.heap.size w1 wr) (fun _ kv _ => L.length - (intOf kv).toNat)
  case atStart => exact ⟨0, 0, Nat.zero_le _, rfl, rfl, rfl, (Below.refl _ _).alloc (Nat.le_refl _) _⟩
  case round =>
    obtain ⟨k, m, hk, HM, rfl, rfl, hB⟩ := hrel
    by_cases hkl : k < L.length
    · obtain ⟨g, o, rfl, hc⟩ := hat (by omega)
      obtain ⟨c1, c2⟩ := hc k hkl
      have c1 := (hB.cell (World.block_lt_of_cell? w1 _ c1)).trans c1
      have c2 := (hB.cell (World.block_lt_of_cell? w1 _ c2)).trans c2
      have hin := HIN.out L[k] (List.getElem_mem hkl)
      have hsd := sum_drop L k hkl
      have hsl := sum_le L (k + 1)
      have hL : L[k] = (L[k].1, L[k].2) := rfl
      rw [hL] at hin
      generalize L[k].1 = lv at c1 hin hsd
      generalize L[k].2 = iv at c2 hin
      have HC : Hid (∀ w, Calls Tryf.prog 20 #[(.agg #[.int .u64 (lv : Int), .int .u64 (iv : Int)])] w fun e w' => e = .returned (.tuple #[.int .u64 ((Pl.nb (lv, iv) : Nat) : Int), .int .u64 ((Pl.ne (lv, iv) : Nat) : Int)]) ∧ Below w.heap.size w w') := Lib.hid fun w => cover_c hin.1 hs60 w
      have hw : Pl.ne (lv, iv) = Pl.nb (lv, iv) + 2 ^ lv := by unfold Pl.ne Pl.nb; simp only []; rw [Nat.add_mul, Nat.one_mul]
      generalize Pl.nb (lv, iv) = p at hin HC hw
      generalize Pl.ne (lv, iv) = q at hin HC hw
      generalize 2 ^ lv = d at hsd hw
      have HM' : Hid (m + d = Pl.wsum (L.take (k + 1))) := Lib.hid (by rw [hsd, HM.out])
      have hmd : m + d ≤ s := by rw [HM'.out]; have := HSum.out; omega
      have e1 : IntKind.u64.wrap ((m : Int) + (q : Int)) = (m : Int) + (q : Int) := by rw [IntKind.wrap_u64]; omega
      have e2 : IntKind.u64.wrap ((m : Int) + (q : Int) - (p : Int)) = ((m + d : Nat) : Int) := by rw [IntKind.wrap_u64]; omega
      have hk1 : (k : Int) < (L.length : Int) := by omega
      have hk0 : (0 : Int) ≤ (k : Int) := by omega
      have HQ := Lib.hid hin.2
      have HPQ : Hid (q ≤ i → p ≤ i) := Lib.hid fun h => by omega
      clear hc hat hsd hsl hL hw HM hin hmd
      generalize m + d = md at HM' e2
      rcases HQ.out with hq | hq
      · have t1 : ¬ (i : Int) < (q : Int) := by omega
        have t2 : (p : Int) ≤ (i : Int) := by have := HPQ.out hq; omega
        clear HQ hq
        go_wp2_with (go_at_call 20; refine (HC.out _).mono ?_; rintro e w' ⟨rfl, hb'⟩)
        go_roundw
        case rel => exact ⟨k + 1, md, by omega, HM', rfl, by go_num, (hB.alloc hB.size _).trans (hb'.mono (by have := hB.size; simp; omega))⟩
        case measure => simp [intOf] <;> omega
      · have t2 : ¬ (p : Int) ≤ (i : Int) := by omega
        clear HQ hq
        go_wp2_with (go_at_call 20; refine (HC.out _).mono ?_; rintro e w' ⟨rfl, hb'⟩)
        go_roundw
        case rel => exact ⟨k + 1, md, by omega, HM', rfl, by go_num, (hB.alloc hB.size _).trans (hb'.mono (by have := hB.size; simp; omega))⟩
        case measure => simp [intOf] <;> omega
    · have hk1 : ¬ (k : Int) < (L.length : Int) := by omega
      obtain rfl : k = L.length := by omega
      have e3 : IntKind.u64.wrap ((s : Int) - 1) = (m : Int) := by
        have h1 := HM.out
        rw [List.take_length] at h1
        have h2 := HSum.out
        rw [IntKind.wrap_u64]; omega
      clear hat HM
      go_wp2_with (go_at_call 18; refine (works_c _).mono ?_; rintro e w' ⟨rfl, hb⟩)
      go_ret
      exact ⟨rfl, (HB.out.trans (hB.mono HB.out.size)).trans (Below.mono (by assumption) (by have := hB.size; have := HB.out.size; omega))⟩
theorem walk (F : Stop.Interp) (w : World) (_hF : F.answers w.tape) (a0 : Int) (w0 : 0 ≤ a0 ∧ a0 < 18446744073709551616) (a1 : Int) (w1 : 0 ≤ a1 ∧ a1 < 18446744073709551616) (hT : LaidIs w) :
    Calls Tryf.prog 6 #[.int .u64 a0, .int .u64 a1] w fun e w' => e = .returned (.bool true) ∧ Below w.heap.size w w' := by
  obtain ⟨i, rfl⟩ := Int.eq_ofNat_of_zero_le w0.1
  obtain ⟨s, rfl⟩ := Int.eq_ofNat_of_zero_le w1.1
  by_cases h : i < s
  · by_cases h2 : s ≤ 1152921504606846976
    · exact walkAt i s h h2 w hT
    · have hg : ¬ (s : Int) ≤ (i : Int) := by omega
      have hg2 : (1152921504606846976 : Int) < (s : Int) := by omega
      go_enter Tryf.func6, Tryf.ntmps6
      go_wp2
      go_ret
      exact ⟨rfl, Below.refl _ _⟩
  · have hg : (s : Int) ≤ (i : Int) := by omega
    go_enter Tryf.func6, Tryf.ntmps6
    go_wp2
    go_ret
    exact ⟨rfl, Below.refl _ _⟩
theorem reads (os : Os) {H : Type} (enc : TypeId × Value → H) : ∃ places, DataW.whole enc Tryf.prog ((laidWorld os).forCall (fun _ _ => 0) ⟨#[], #[.int .u64 0, .int .u64 0], []⟩).memory Tryf.f6.params.toList Rows.fnInclusionOtherSpec.vars false (#[.int .u64 0, .int .u64 0] : Array Value).toList 8 = some ([.lit (.int .u64 0), .lit (.int .u64 0)], [], places) :=
  ⟨[], by kernel_rfl⟩
set_option maxRecDepth 100000 in
theorem contract (F : Stop.Interp) (H : Type) (enc : TypeId × Value → H) (W : World) (base : Nat) (args : Array Value) (ds gs : List (DataW H)) (before : List MemPlace) (hF : F.told.answers W.tape)
    (hval0 : ∀ (j : Nat) t v, Tryf.f6.params[j]? = some t → args[j]? = some v → Value.okWide Tryf.prog W .any base t v)
    (hW : DataW.Whole enc Tryf.prog Tryf.f6.params.toList Rows.fnInclusionOtherSpec.vars false W args.toList ds gs before) (hL : laidMetH Tryf.prog Rows.fnInclusionOtherRow.laid W) :
    Calls Tryf.prog 6 args W fun e W' => ∃ v, e = .returned v ∧ ((OpenSpec.ofChange Rows.fnInclusionOtherSpec).at F.told).post enc Tryf.prog Tryf.f6 false true false false W args v W' := by
  have hval : ∀ (j : Nat) t v, Tryf.f6.params[j]? = some t → args[j]? = some v → Value.okWide Tryf.prog W .any base t v := hval0
  have hW' := hW
  obtain ⟨p, q, hA0, hV, rfl, hfz, hnd⟩ := hW
  have hA : DataW.TrodAll enc Tryf.prog W 0 (fun _ => true) true Tryf.f6.params.toList args.toList ds p := hA0
  rw [Tryf.params6] at hA hval
  obtain ⟨v0, vs0, d0, ds0, p0, q0, hargs, rfl, rfl, h0, r0⟩ := trodAll_cons hA
  obtain ⟨v1, vs1, d1, ds1, p1, q1, rfl, rfl, rfl, h1, r1⟩ := trodAll_cons r0
  obtain ⟨rfl, rfl, rfl⟩ := trodAll_nil r1
  obtain rfl : args = #[v0, v1] := by cases args; simp_all
  obtain ⟨rfl, rfl⟩ := trodVars_none hV
  have k0 := h0
  have lt0 : ∀ x ∈ p0, x.block < W.heap.size := by obtain ⟨m, hm⟩ := k0; exact DataW.trod_lt m _ _ _ hm
  obtain ⟨a0, rfl, hd0, hp0, w0⟩ := open_int Tryf.underlying22 (hval 0 22 v0 rfl rfl) h0
  have k1 := h1
  have lt1 : ∀ x ∈ p1, x.block < W.heap.size := by obtain ⟨m, hm⟩ := k1; exact DataW.trod_lt m _ _ _ hm
  obtain ⟨a1, rfl, hd1, hp1, w1⟩ := open_int Tryf.underlying22 (hval 1 22 v1 rfl rfl) h1
  refine (walk F.told W hF a0 (bound_u64 w0) a1 (bound_u64 w1) (laidIs_of hL)).mono fun e W' ⟨he, bel⟩ => ?_
  subst he
  exact ⟨_, rfl, _, _, _, [], _, [], hW', trodAll_mk1 (shut_bool Tryf.underlying4 _), (trodAll_cons_mk (Below.trod laidOut (by kernel_rfl) (of_decide_eq_true (by kernel_rfl)) k0 bel lt0) (trodAll_cons_mk (Below.trod laidOut (by kernel_rfl) (of_decide_eq_true (by kernel_rfl)) k1 bel lt1) trodAll_mk0)), rfl, bel.frame _, fun h => by cases h⟩
set_option maxRecDepth 100000 in
theorem lifted (os : Os) (started : os.Started) (H : Type) (enc : TypeId × Value → H) :
    ReturnsInTold none {} Tryf.checked os 6 .any Input.okWide ((OpenSpec.ofChange Rows.fnInclusionOtherSpec).preRow enc Tryf.prog Tryf.f6 Rows.fnInclusionOtherRow.domain false Rows.fnInclusionOtherRow.laid) (fun F => ((OpenSpec.ofChange Rows.fnInclusionOtherSpec).at F).post enc Tryf.prog Tryf.f6 false true false false) (aloneAtReturn Tryf.prog) nothingAlways := by
  obtain ⟨places, hx⟩ := reads os enc
  refine returnsInTold_of_row (C := Tryf.checked) (s := OpenSpec.ofChange Rows.fnInclusionOtherSpec) mayEnter own started (by kernel_rfl) Tryf.func6
    (OpenSpec.witness_stopped_at (enc := enc) (C := Tryf.checked) false (laidWorld os) #[.int .u64 0, .int .u64 0] rfl (by kernel_rfl) (by kernel_rfl) (by kernel_rfl)
      (OpenSpec.preRow_of_cond 8 hx (by kernel_rfl) (fun k hk => by cases hk) (by kernel_rfl) (laid_met os #[.int .u64 0, .int .u64 0]))) ?_
  intro F W base args ds gs before _ hF hval hW _ _ _ hL _
  exact contract F H enc W base args ds gs before hF hval hW hL
theorem proved : Rows.FnInclusionOtherToldSaid :=
  Claim7.holds_of_told_tied_any_at .later 6 Tryf.f6 "fmt.errorf" [] [] _ _ _ _ _ (by kernel_rfl) rfl rfl rfl laidOut (by kernel_rfl) rfl ⟨rfl, rfl, rfl, rfl, rfl, rfl, rfl⟩ rfl rfl (by kernel_rfl) (by kernel_rfl) Tryf.func6 (by kernel_rfl)
    (of_decide_eq_true (by kernel_rfl)) (by unfold Func.isWrapper; first | (rw [if_pos (by decide +kernel)]; kernel_rfl) | (rw [if_neg (by decide +kernel)]; exact ⟨rfl, rfl⟩)) stopsAre.symm rfl stopKnobs.symm (by kernel_rfl)
    (by kernel_rfl) (by kernel_rfl) (by kernel_rfl) (by kernel_rfl) (by kernel_rfl) (by kernel_rfl) (by kernel_rfl) (by kernel_rfl) (by kernel_rfl) rfl (by kernel_rfl) rfl rfl
    rfl rfl
    rfl mainIs (by kernel_rfl) (by kernel_rfl) (by decide) (by kernel_rfl) fnInclusionOther_row_tie
    (OpenClaim.moreEntering_of mayEnter (by kernel_rfl) (by kernel_rfl) (by kernel_rfl) (by kernel_rfl) (by kernel_rfl) (by kernel_rfl) (by kernel_rfl) liftsFinal.symm make)
    ⟨_, WideRow.started_initial, quiet _⟩
    (fun os started _ H enc _ => lifted os started H enc)
end Go.Proofs.YtniodnkejpbheaaFmt.fnInclusionOther
