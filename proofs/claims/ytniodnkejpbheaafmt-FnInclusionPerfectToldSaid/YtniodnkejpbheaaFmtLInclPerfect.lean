/- A proof in a perfect tree has no ephemeral node, and a node of each level. -/
import Derived.Test.YtniodnkejpbheaaFmtTold
import Derived.Test.YtniodnkejpbheaaFmtImplPlan
import Derived.Test.YtniodnkejpbheaaFmtWorks
import Derived.Test.YtniodnkejpbheaaFmtPlanQ
namespace Go.Proofs.YtniodnkejpbheaaFmt.fnInclusionPerfect
open Go.ChangeShapes Go.WideShapes Go.ChangeAt Go.RowKit
set_option maxRecDepth 100000
theorem up_perfect {i n : Nat} (h : i < 2 ^ n) : Pl.up 0 i (2 ^ n) = n := by
  obtain ⟨a, b, c⟩ := Pl.cut_spec (n + 1) i (2 ^ n) h (by rw [Nat.pow_succ]; have := Nat.two_pow_pos n; omega)
  unfold Pl.up
  rw [Nat.pow_zero, Nat.div_one]
  generalize Pl.cut i (2 ^ n) = d at *
  rcases Nat.lt_or_ge d n with hd | hd
  · have e : 2 ^ n / 2 ^ d = 2 * 2 ^ (n - d - 1) := by
      rw [Nat.pow_div (by omega) (by decide), ← Nat.pow_succ']; congr 1; omega
    rw [e] at c
    omega
  · omega
theorem plan_perfect {i n : Nat} (h : i < 2 ^ n) : Pl.planL 0 i (2 ^ n) = (0, i) :: Pl.sibs 0 i n ∧ Pl.planB 0 i (2 ^ n) = 0 ∧ Pl.planE 0 i (2 ^ n) = 0 := by
  have h0 : i / 2 ^ n = 0 := Nat.div_eq_of_lt h
  have e1 : Pl.pieces (Pl.fend 0 i n) (2 ^ n) = [] := Pl.pieces_nil (by unfold Pl.fend; rw [h0]; simp)
  have e2 : Pl.pieces 0 (Pl.fbeg 0 i n) = [] := Pl.pieces_nil (by unfold Pl.fbeg; rw [h0]; simp)
  unfold Pl.planL Pl.planB Pl.planE
  rw [up_perfect h, e1, e2]
  simp
theorem sibs_get : ∀ (n l i k : Nat) (h : k < (Pl.sibs l i n).length), (Pl.sibs l i n)[k] = (l + k, i / 2 ^ k ^^^ 1)
  | 0, _, _, k, h => by simp [Pl.sibs] at h
  | n + 1, l, i, 0, _ => by simp [Pl.sibs]
  | n + 1, l, i, k + 1, h => by
    have := sibs_get n (l + 1) (i / 2) k (by simpa [Pl.sibs] using h)
    simp only [Pl.sibs, List.getElem_cons_succ]
    rw [this, Nat.div_div_eq_div_mul, Nat.pow_succ, Nat.mul_comm 2, show l + 1 + k = l + (k + 1) by omega]
set_option maxHeartbeats 1000000 in
theorem walkAt (i n : Nat) (h : i < 2 ^ n) (hn : n ≤ 60) (w : World) (hT : Tab w) : Calls Tryf.prog 5 #[.int .u64 (i : Int), .int .u64 (n : Int)] w fun e w' => e = .returned (.bool true) ∧ Below w.heap.size w w' := by
  have hs : 2 ^ n < 18446744073709551616 := Nat.pow_lt_pow_right (by decide) (show n < 64 by omega)
  have HI0 := implIncl i (2 ^ n) h hs w hT
  obtain ⟨p1, p2, p3⟩ := plan_perfect h
  rw [p1, p2, p3] at HI0
  have HI : Hid (∀ s : Nat, s = 2 ^ n → Calls Tryf.prog 15 #[.int .u64 (i : Int), .int .u64 (s : Int)] w (RetPlanO w (Pl.sibs 0 i n) 0 0 (0 + Pl.up 0 i (2 ^ n)) (Pl.ephI 0 i (2 ^ n)))) := Lib.hid fun s hs => by subst hs; exact HI0
  generalize 0 + Pl.up 0 i (2 ^ n) = l at HI
  generalize Pl.ephI 0 i (2 ^ n) = ei at HI
  have HL : Hid (∀ k (hk : k < (Pl.sibs 0 i n).length), (Pl.sibs 0 i n)[k] = (k, i / 2 ^ k ^^^ 1)) := Lib.hid fun k hk => by rw [sibs_get]; simp
  have hlen := Pl.sibs_length n 0 i
  generalize Pl.sibs 0 i n = L at HI HL hlen
  have HI64 : Hid (i < 18446744073709551616) := Lib.hid (by omega)
  obtain ⟨s, HS⟩ : ∃ s, Hid (s = 2 ^ n) := ⟨_, Lib.hid rfl⟩
  subst hlen
  have his : (i : Int) < (s : Int) := by rw [HS.out]; omega
  have e0 : IntKind.u64.wrap ((2 : Int) ^ L.length) = (s : Int) := by rw [HS.out]; have := wrapN (2 ^ L.length) hs; simpa using this
  have hmin : min L.length 64 = L.length := by omega
  have t0 : ¬ (60 : Int) < (L.length : Int) := by omega
  have e4 : IntKind.i64.wrap (L.length : Int) = (L.length : Int) := IntWalk.i64_in _ (by omega)
  clear hT h hs p1 p2 p3 HI0
  go_enter Tryf.func5, Tryf.ntmps5
  go_wp2_with fail
  refine (HI.out s HS.out).mono ?_; rintro r w1 ⟨v, rfl, hv, hb1⟩
  obtain ⟨A, cap, rfl, hcap, hat⟩ := hv
  have HB := Lib.hid hb1
  clear hb1 HI
  go_wp2_with fail
  go_loopw [44] (fun kv wr => ∃ k : Nat, k ≤ L.length ∧ kv = .int .i64 k ∧ Below w1.heap.size w1 wr) (fun kv _ => L.length - (intOf kv).toNat)
  case atStart => exact ⟨0, Nat.zero_le _, rfl, (Below.refl _ _).alloc (Nat.le_refl _) _⟩
  case round =>
    obtain ⟨k, hk, rfl, hB⟩ := hrel
    by_cases hkl : k < L.length
    · obtain ⟨g, o, rfl, hc⟩ := hat (by omega)
      obtain ⟨c1, c2⟩ := hc k hkl
      have c1 := (hB.cell (World.block_lt_of_cell? w1 _ c1)).trans c1
      have c2 := (hB.cell (World.block_lt_of_cell? w1 _ c2)).trans c2
      rw [HL.out k hkl] at c1 c2
      simp only [] at c1 c2
      have e5 : (i : Int) / 2 ^ k = ((i / 2 ^ k : Nat) : Int) := by simp
      have e6 := u64_xor_nat (i / 2 ^ k) 1 (Nat.lt_of_le_of_lt (Nat.div_le_self _ _) HI64.out) (by decide)
      generalize i / 2 ^ k ^^^ 1 = sb at c2 e6
      generalize i / 2 ^ k = q at e5 e6
      have e7 : bits .xor .u64 (q : Int) 1 = (sb : Int) := e6
      have hmk : min k 64 = k := by omega
      have e8 : IntKind.u64.wrap (k : Int) = (k : Int) := wrapN k (by omega)
      have hk1 : (k : Int) < (L.length : Int) := by omega
      have hk0 : (0 : Int) ≤ (k : Int) := by omega
      clear hc hat e6 hmin e0 e4 t0
      go_wp2_with fail
      go_quiet (fail)
      go_wp2
      go_roundw
      case rel => exact ⟨k + 1, by omega, by go_num, below_drewN (hB.alloc hB.size _) _⟩
      case measure => simp [intOf] <;> omega
    · have hk1 : ¬ (k : Int) < (L.length : Int) := by omega
      clear hat
      go_wp2_with (go_at_call 18; refine (works_c _).mono ?_; rintro e w' ⟨rfl, hb⟩)
      go_ret
      exact ⟨rfl, (HB.out.trans (hB.mono HB.out.size)).trans (Below.mono (by assumption) (by have := hB.size; have := HB.out.size; omega))⟩
theorem walk (F : Stop.Interp) (w : World) (_hF : F.answers w.tape) (a0 : Int) (w0 : 0 ≤ a0 ∧ a0 < 18446744073709551616) (a1 : Int) (w1 : 0 ≤ a1 ∧ a1 < 18446744073709551616) (hT : LaidIs w) :
    Calls Tryf.prog 5 #[.int .u64 a0, .int .u64 a1] w fun e w' => e = .returned (.bool true) ∧ Below w.heap.size w w' := by
  obtain ⟨i, rfl⟩ := Int.eq_ofNat_of_zero_le w0.1
  obtain ⟨n, rfl⟩ := Int.eq_ofNat_of_zero_le w1.1
  by_cases hn : n ≤ 60
  · by_cases h : i < 2 ^ n
    · exact walkAt i n h hn w hT
    · obtain ⟨s, HS⟩ : ∃ s, Hid (s = 2 ^ n) := ⟨_, Lib.hid rfl⟩
      have his : ¬ (i : Int) < (s : Int) := by rw [HS.out]; omega
      have e0 : IntKind.u64.wrap ((2 : Int) ^ n) = (s : Int) := by rw [HS.out]; have := wrapN (2 ^ n) (Nat.pow_lt_pow_right (by decide) (show n < 64 by omega)); simpa using this
      have hmin : min n 64 = n := by omega
      have t0 : ¬ (60 : Int) < (n : Int) := by omega
      clear h
      go_enter Tryf.func5, Tryf.ntmps5
      go_wp2
      go_ret
      exact ⟨rfl, Below.refl _ _⟩
  · have t0 : (60 : Int) < (n : Int) := by omega
    go_enter Tryf.func5, Tryf.ntmps5
    go_wp2
    go_ret
    exact ⟨rfl, Below.refl _ _⟩
theorem reads (os : Os) {H : Type} (enc : TypeId × Value → H) : ∃ places, DataW.whole enc Tryf.prog ((laidWorld os).forCall (fun _ _ => 0) ⟨#[], #[.int .u64 0, .int .u64 0], []⟩).memory Tryf.f5.params.toList Rows.fnInclusionPerfectSpec.vars false (#[.int .u64 0, .int .u64 0] : Array Value).toList 8 = some ([.lit (.int .u64 0), .lit (.int .u64 0)], [], places) :=
  ⟨[], by kernel_rfl⟩
set_option maxRecDepth 100000 in
theorem contract (F : Stop.Interp) (H : Type) (enc : TypeId × Value → H) (W : World) (base : Nat) (args : Array Value) (ds gs : List (DataW H)) (before : List MemPlace) (hF : F.told.answers W.tape)
    (hval0 : ∀ (j : Nat) t v, Tryf.f5.params[j]? = some t → args[j]? = some v → Value.okWide Tryf.prog W .any base t v)
    (hW : DataW.Whole enc Tryf.prog Tryf.f5.params.toList Rows.fnInclusionPerfectSpec.vars false W args.toList ds gs before) (hL : laidMetH Tryf.prog Rows.fnInclusionPerfectRow.laid W) :
    Calls Tryf.prog 5 args W fun e W' => ∃ v, e = .returned v ∧ ((OpenSpec.ofChange Rows.fnInclusionPerfectSpec).at F.told).post enc Tryf.prog Tryf.f5 false true false false W args v W' := by
  have hval : ∀ (j : Nat) t v, Tryf.f5.params[j]? = some t → args[j]? = some v → Value.okWide Tryf.prog W .any base t v := hval0
  have hW' := hW
  obtain ⟨p, q, hA0, hV, rfl, hfz, hnd⟩ := hW
  have hA : DataW.TrodAll enc Tryf.prog W 0 (fun _ => true) true Tryf.f5.params.toList args.toList ds p := hA0
  rw [Tryf.params5] at hA hval
  obtain ⟨v0, vs0, d0, ds0, p0, q0, hargs, rfl, rfl, h0, r0⟩ := trodAll_cons hA
  obtain ⟨v1, vs1, d1, ds1, p1, q1, rfl, rfl, rfl, h1, r1⟩ := trodAll_cons r0
  obtain ⟨rfl, rfl, rfl⟩ := trodAll_nil r1
  obtain rfl : args = #[v0, v1] := by cases args; simp_all
  obtain ⟨rfl, rfl⟩ := trodVars_none hV
  have k0 := h0
  have lt0 : ∀ x ∈ p0, x.block < W.heap.size := by obtain ⟨m, hm⟩ := k0; exact DataW.trod_lt m _ _ _ hm
  obtain ⟨a0, rfl, hd0, hp0, w0⟩ := open_int Tryf.underlying22 (hval 0 22 v0 rfl rfl) h0
  have k1 := h1
  have lt1 : ∀ x ∈ p1, x.block < W.heap.size := by obtain ⟨m, hm⟩ := k1; exact DataW.trod_lt m _ _ _ hm
  obtain ⟨a1, rfl, hd1, hp1, w1⟩ := open_int Tryf.underlying24 (hval 1 24 v1 rfl rfl) h1
  refine (walk F.told W hF a0 (bound_u64 w0) a1 (bound_u64 w1) (laidIs_of hL)).mono fun e W' ⟨he, bel⟩ => ?_
  subst he
  exact ⟨_, rfl, _, _, _, [], _, [], hW', trodAll_mk1 (shut_bool Tryf.underlying4 _), (trodAll_cons_mk (Below.trod laidOut (by kernel_rfl) (of_decide_eq_true (by kernel_rfl)) k0 bel lt0) (trodAll_cons_mk (Below.trod laidOut (by kernel_rfl) (of_decide_eq_true (by kernel_rfl)) k1 bel lt1) trodAll_mk0)), rfl, bel.frame _, fun h => by cases h⟩
set_option maxRecDepth 100000 in
theorem lifted (os : Os) (started : os.Started) (H : Type) (enc : TypeId × Value → H) :
    ReturnsInTold none {} Tryf.checked os 5 .any Input.okWide ((OpenSpec.ofChange Rows.fnInclusionPerfectSpec).preRow enc Tryf.prog Tryf.f5 Rows.fnInclusionPerfectRow.domain false Rows.fnInclusionPerfectRow.laid) (fun F => ((OpenSpec.ofChange Rows.fnInclusionPerfectSpec).at F).post enc Tryf.prog Tryf.f5 false true false false) (aloneAtReturn Tryf.prog) nothingAlways := by
  obtain ⟨places, hx⟩ := reads os enc
  refine returnsInTold_of_row (C := Tryf.checked) (s := OpenSpec.ofChange Rows.fnInclusionPerfectSpec) mayEnter own started (by kernel_rfl) Tryf.func5
    (OpenSpec.witness_stopped_at (enc := enc) (C := Tryf.checked) false (laidWorld os) #[.int .u64 0, .int .u64 0] rfl (by kernel_rfl) (by kernel_rfl) (by kernel_rfl)
      (OpenSpec.preRow_of_cond 8 hx (by kernel_rfl) (fun k hk => by cases hk) (by kernel_rfl) (laid_met os #[.int .u64 0, .int .u64 0]))) ?_
  intro F W base args ds gs before _ hF hval hW _ _ _ hL _
  exact contract F H enc W base args ds gs before hF hval hW hL
theorem proved : Rows.FnInclusionPerfectToldSaid :=
  Claim7.holds_of_told_tied_any_at .later 5 Tryf.f5 "fmt.errorf" [] [] _ _ _ _ _ (by kernel_rfl) rfl rfl rfl laidOut (by kernel_rfl) rfl ⟨rfl, rfl, rfl, rfl, rfl, rfl, rfl⟩ rfl rfl (by kernel_rfl) (by kernel_rfl) Tryf.func5 (by kernel_rfl)
    (of_decide_eq_true (by kernel_rfl)) (by unfold Func.isWrapper; first | (rw [if_pos (by decide +kernel)]; kernel_rfl) | (rw [if_neg (by decide +kernel)]; exact ⟨rfl, rfl⟩)) stopsAre.symm rfl stopKnobs.symm (by kernel_rfl)
    (by kernel_rfl) (by kernel_rfl) (by kernel_rfl) (by kernel_rfl) (by kernel_rfl) (by kernel_rfl) (by kernel_rfl) (by kernel_rfl) (by kernel_rfl) rfl (by kernel_rfl) rfl rfl
    rfl rfl
    rfl mainIs (by kernel_rfl) (by kernel_rfl) (by decide) (by kernel_rfl) fnInclusionPerfect_row_tie
    (OpenClaim.moreEntering_of mayEnter (by kernel_rfl) (by kernel_rfl) (by kernel_rfl) (by kernel_rfl) (by kernel_rfl) (by kernel_rfl) (by kernel_rfl) liftsFinal.symm make)
    ⟨_, WideRow.started_initial, quiet _⟩
    (fun os started _ H enc _ => lifted os started H enc)
end Go.Proofs.YtniodnkejpbheaaFmt.fnInclusionPerfect
