/- The nodes of a compact range are the fewest perfect trees, from the left to the right, behind those that were there. -/
import Derived.Test.YtgilgmnibafohaaDoorTabW
import Derived.Test.YtgilgmnibafohaaDoorImplNodes
import Derived.Test.YtgilgmnibafohaaDoorWorks
import Derived.Test.YtgilgmnibafohaaDoorSameNodes
import Derived.Test.YtgilgmnibafohaaDoorAppend
namespace Go.Proofs.YtgilgmnibafohaaDoor.fnExactRangeNodes
open Go.ChangeShapes Go.WideShapes Go.ChangeAt Go.RowKit
set_option maxHeartbeats 1000000 in
theorem walkAt (b e : Nat) (he : e < 18446744073709551616) (hle : b ≤ e) (v : Value) (F : List (Nat × Nat)) (w : World) (hT : Tab w) (hv : NodesR w v F) (hF : F.length ≤ 2147483647) :
    Calls Tryd.prog 3 #[.int .u64 b, .int .u64 e, v] w fun e w' => e = .returned (.bool true) ∧ Below w.heap.size w w' := by
  obtain ⟨i0, hi, hz0, hz1, hz2⟩ := info_parts nodeInfo
  have H := implNodes b e hle he v F w hT hv (by simp [Room]; omega)
  have H2 := pieces_c b e (by omega) he
  have hpl := Pl.pieces_len b e he
  obtain ⟨L, hL⟩ : ∃ L, Pl.pieces b e = L := ⟨_, rfl⟩
  rw [hL] at H H2 hpl
  have HV : Hid (NodesR w v F) := hv
  obtain ⟨A, cap, rfl, hat⟩ := hv.news
  have hg : ¬ (e : Int) < (b : Int) := by omega
  have hg2 : ¬ 2147483647 < (F.length : Int) := by omega
  have HP : Hid (∀ w : World, Calls Tryd.prog 7 #[.int .u64 b, .int .u64 e] w (RetNodes w L)) := H2
  clear hT hL he H2 hv
  go_enter Tryd.func3, Tryd.ntmps3
  go_wp2_with fail
  refine H.mono ?_; rintro e w1 ⟨v, rfl, hown, hB1⟩
  have hV1 := (HV.out.below hB1).below ((Below.refl _ _).alloc (Nat.le_refl w1.heap.size) (.cells #[] 31))
  obtain ⟨A1, cap1, hvv, hat1⟩ := hV1.news
  injection hvv with hA _ hcap'
  subst hA hcap'
  clear H hat
  have f1 : 0 + F.length ≤ maxLen := by unfold maxLen; omega
  have f2 : (0 + F.length) * 16 ≤ 140737488355328 := by omega
  have f3 : F.length + L.length ≤ maxLen := by unfold maxLen; omega
  have f4 : (F.length + L.length) * 16 ≤ 140737488355328 := by omega
  go_wp2_with (at_builtin; refine wpList_append_list rfl (.tmp 17) (.tmp 18) 23 rfl w1.heap.size 31 i0 (.agg #[.int .u64 0, .int .u64 0]) 2 16 Tryd.underlying23 hi hz0 hz1 hz2 rfl (by decide) _ 0 [] rfl (World.ownsRow_lit _ _ 0 (Nat.le_refl _) (by unfold maxLen; omega) rfl) A F.length cap (nodeCells F) rfl (nodeCells_length F) hat1 (nodeCells_one F) f1 f2 (by simp) ?_; intro v1 w2 hown1 hgrow1 _)
  simp only [Nat.zero_add, List.nil_append] at hown1
  have hB12 : Below w1.heap.size w1 w2 := ((Below.refl _ _).alloc (Nat.le_refl _) _).grown hgrow1 (by simp) (fun k hk => by
    have : some w1.heap.size = some k := hk
    injection this with h; omega)
  refine (HP.out _).mono ?_; rintro e w3 ⟨v3, rfl, hown3, hB23⟩
  have hN : NodesR w1 v (F ++ L) := NodesR.of_own hown
  have hown13 := own_below hown1 hB23
  have hB13 : Below w1.heap.size w1 w3 := hB12.trans (hB23.mono hB12.size)
  obtain ⟨A3, cap3, rfl, hat3⟩ := (NodesR.of_own hown3).news
  clear hown1 hgrow1 hB12 hB23 hown3 hat1 hV1 HV hown HP
  go_wp2_with (at_builtin; refine wpList_append_list rfl (.tmp 19) (.tmp 22) 23 rfl w1.heap.size 31 i0 (.agg #[.int .u64 0, .int .u64 0]) 2 16 Tryd.underlying23 hi hz0 hz1 hz2 rfl (by decide) _ F.length (nodeCells F) rfl hown13 A3 L.length cap3 (nodeCells L) rfl (nodeCells_length L) hat3 (nodeCells_one L) f3 f4 hB13.size ?_; intro v4 w4 hown4 hgrow4 _)
  have hB14 : Below w1.heap.size w1 w4 := hB13.grown hgrow4 hB13.size (fun k hk => (hown13.lt k hk).1)
  have hown4' : w4.ownsRow w1.heap.size 31 2 v4 (F ++ L).length (nodeCells (F ++ L)) := by
    rw [List.length_append, nodeCells, List.flatMap_append]; exact hown4
  have HS := sameNodes_c v v4 (F ++ L) w4 (hN.below hB14) (NodesR.of_own hown4') (by rw [List.length_append]; unfold Room; omega)
  clear hown4 hown4' hgrow4 hown13
  go_wp2_with (first | (go_at_call 5; refine HS.mono ?_; rintro e w' ⟨rfl, hb⟩) | (go_at_call 8; refine (works_c _).mono ?_; rintro e w' ⟨rfl, hb2⟩))
  go_ret
  have hs1 := hB1.size
  have hs2 := hB14.size
  have hs3 := hb.size
  exact ⟨rfl, ((hB1.trans (hB14.mono hs1)).trans (hb.mono (by omega))).trans (hb2.mono (by omega))⟩
theorem walk (w : World) (a0 : Int) (w0 : 0 ≤ a0 ∧ a0 < 18446744073709551616) (a1 : Int) (w1 : 0 ≤ a1 ∧ a1 < 18446744073709551616) (v2 : Value) (L2 : List (Nat × Nat)) (w2 : NodesR w v2 L2) (hT : Tab w) :
    Calls Tryd.prog 3 #[.int .u64 a0, .int .u64 a1, v2] w fun e w' => e = .returned (.bool true) ∧ Below w.heap.size w w' := by
  obtain ⟨b, rfl⟩ := Int.eq_ofNat_of_zero_le w0.1
  obtain ⟨e, rfl⟩ := Int.eq_ofNat_of_zero_le w1.1
  by_cases hF : L2.length ≤ 2147483647
  · by_cases hle : e < b
    · obtain ⟨A, cap, rfl, _⟩ := w2
      have hle' : (e : Int) < (b : Int) := by omega
      have hg2 : ¬ 2147483647 < (L2.length : Int) := by omega
      clear hT
      go_enter Tryd.func3, Tryd.ntmps3
      go_wp2
      go_ret
      exact ⟨rfl, Below.refl _ _⟩
    · exact walkAt b e (by omega) (by omega) v2 L2 w hT w2 hF
  · obtain ⟨A, cap, rfl, _⟩ := w2
    have hg2 : 2147483647 < (L2.length : Int) := by omega
    clear hT
    go_enter Tryd.func3, Tryd.ntmps3
    go_wp2
    go_ret
    exact ⟨rfl, Below.refl _ _⟩
theorem laid_met (os : Os) : laidMet Tryd.prog Rows.fnExactRangeNodesRow.laid ((laidWorld os).forCall (fun _ _ => 0) ⟨#[], #[.int .u64 0, .int .u64 0, .slice none 0 0], []⟩).memory :=
  laidMet_of_run' 8 (by kernel_rfl) (by kernel_rfl)
theorem reads (os : Os) {H : Type} (enc : TypeId × Value → H) : ∃ places, DataW.whole enc Tryd.prog ((laidWorld os).forCall (fun _ _ => 0) ⟨#[], #[.int .u64 0, .int .u64 0, .slice none 0 0], []⟩).memory Tryd.f3.params.toList Rows.fnExactRangeNodesSpec.vars false (#[.int .u64 0, .int .u64 0, .slice none 0 0] : Array Value).toList 8 = some ([.lit (.int .u64 0), .lit (.int .u64 0), .nil], [], places) :=
  ⟨[], by kernel_rfl⟩
set_option maxRecDepth 100000 in
theorem contract (H : Type) (enc : TypeId × Value → H) (W : World) (base : Nat) (args : Array Value) (ds gs : List (DataW H)) (before : List MemPlace)
    (hval0 : ∀ (j : Nat) t v, Tryd.f3.params[j]? = some t → args[j]? = some v → Value.okWide Tryd.prog W .any base t v)
    (hW : DataW.Whole enc Tryd.prog Tryd.f3.params.toList Rows.fnExactRangeNodesSpec.vars false W args.toList ds gs before) (hL : laidMetH Tryd.prog Rows.fnExactRangeNodesRow.laid W) :
    Calls Tryd.prog 3 args W fun e W' => ∃ v, e = .returned v ∧ Rows.fnExactRangeNodesSpec.post enc Tryd.prog Tryd.f3 false true false false W args v W' := by
  have hval : ∀ (j : Nat) t v, Tryd.f3.params[j]? = some t → args[j]? = some v → Value.okWide Tryd.prog W .any base t v := hval0
  have hW' := hW
  obtain ⟨p, q, hA0, hV, rfl, hfz, hnd⟩ := hW
  have hA : DataW.TrodAll enc Tryd.prog W 0 (fun _ => true) true Tryd.f3.params.toList args.toList ds p := hA0
  rw [Tryd.params3] at hA hval
  obtain ⟨v0, vs0, d0, ds0, p0, q0, hargs, rfl, rfl, h0, r0⟩ := trodAll_cons hA
  obtain ⟨v1, vs1, d1, ds1, p1, q1, rfl, rfl, rfl, h1, r1⟩ := trodAll_cons r0
  obtain ⟨v2, vs2, d2, ds2, p2, q2, rfl, rfl, rfl, h2, r2⟩ := trodAll_cons r1
  obtain ⟨rfl, rfl, rfl⟩ := trodAll_nil r2
  obtain rfl : args = #[v0, v1, v2] := by cases args; simp_all
  obtain ⟨rfl, rfl⟩ := trodVars_none hV
  have k0 := h0
  have lt0 : ∀ x ∈ p0, x.block < W.heap.size := by obtain ⟨m, hm⟩ := k0; exact DataW.trod_lt m _ _ _ hm
  obtain ⟨a0, rfl, hd0, hp0, w0⟩ := open_int Tryd.underlying22 (hval 0 22 v0 rfl rfl) h0
  have k1 := h1
  have lt1 : ∀ x ∈ p1, x.block < W.heap.size := by obtain ⟨m, hm⟩ := k1; exact DataW.trod_lt m _ _ _ hm
  obtain ⟨a1, rfl, hd1, hp1, w1⟩ := open_int Tryd.underlying22 (hval 1 22 v1 rfl rfl) h1
  have k2 := h2
  have lt2 : ∀ x ∈ p2, x.block < W.heap.size := by obtain ⟨m, hm⟩ := k2; exact DataW.trod_lt m _ _ _ hm
  obtain ⟨L2, w2⟩ := openNodes (hval 2 23 v2 rfl rfl) h2
  refine (walk W a0 (bound_u64 w0) a1 (bound_u64 w1) v2 L2 w2 (tab_of hL)).mono fun e W' ⟨he, bel⟩ => ?_
  subst he
  exact ⟨_, rfl, _, _, _, [], _, [], hW', trodAll_mk1 (shut_bool Tryd.underlying4 _), (trodAll_cons_mk (Below.trod laidOut (by kernel_rfl) (of_decide_eq_true (by kernel_rfl)) k0 bel lt0) (trodAll_cons_mk (Below.trod laidOut (by kernel_rfl) (of_decide_eq_true (by kernel_rfl)) k1 bel lt1) (trodAll_cons_mk (Below.trod laidOut (by kernel_rfl) (of_decide_eq_true (by kernel_rfl)) k2 bel lt2) trodAll_mk0))), rfl, bel.frame _, fun h => by cases h⟩
set_option maxRecDepth 100000 in
theorem lifted (os : Os) (started : os.Started) (H : Type) (enc : TypeId × Value → H) (F : Stop.Interp) :
    ReturnsInHanded {} Tryd.checked os 3 .any ((OpenSpec.ofChange Rows.fnExactRangeNodesSpec).preRow enc Tryd.prog Tryd.f3 Rows.fnExactRangeNodesRow.domain false Rows.fnExactRangeNodesRow.laid) (((OpenSpec.ofChange Rows.fnExactRangeNodesSpec).at F).post enc Tryd.prog Tryd.f3 false true false false) := by
  obtain ⟨places, hx⟩ := reads os enc
  refine returnsInHanded_of_row (C := Tryd.checked) (s := OpenSpec.ofChange Rows.fnExactRangeNodesSpec) own started (by kernel_rfl) Tryd.func3
    (witness_row_at (enc := enc) (C := Tryd.checked) false (laidWorld os) #[.int .u64 0, .int .u64 0, .slice none 0 0] rfl (by kernel_rfl) (by kernel_rfl) (by kernel_rfl)
      (OpenSpec.preRow_of_cond 8 hx (by kernel_rfl) (fun k hk => by cases hk) (by kernel_rfl) (laid_met os))) ?_
  intro W base args ds gs before hval hW _ _ _ hL _ _
  exact contract H enc W base args ds gs before hval hW hL
theorem over : Rows.FnExactRangeNodesSaid :=
  OpenClaim.holds_of_cond 3 Tryd.f3 rfl rfl rfl rfl rfl rfl rfl ⟨rfl, rfl, rfl, rfl, rfl⟩ rfl rfl rfl rfl rfl (by kernel_rfl) Tryd.func3 (by kernel_rfl)
    (of_decide_eq_true (by kernel_rfl)) (by unfold Func.isWrapper; first | (rw [if_pos (by decide +kernel)]; kernel_rfl) | (rw [if_neg (by decide +kernel)]; exact ⟨rfl, rfl⟩))
    (fun os started H enc _ F => by rw [OpenClaim.pre_eq_preRow]; exact lifted os started H enc F)
theorem plain (f : FuncId) (fn : Func) (hf : Tryd.pinned.checked.prog.funcNamed "loop.example/pub-logproofs/laws.FnExactRangeNodes" = some f) (hfn : Tryd.pinned.checked.prog.funcs[f]? = some fn) :
    false = Tryd.pinned.checked.prog.looks [] ∧ ∀ (j : Nat) t, fn.params[j]? = some t → Tryd.pinned.checked.prog.wantsStandIn t = false := by
  obtain rfl : f = 3 := Option.some.inj ((show Tryd.prog.funcNamed "loop.example/pub-logproofs/laws.FnExactRangeNodes" = some 3 by kernel_rfl).symm.trans hf) |>.symm
  obtain rfl : fn = Tryd.f3 := (Option.some.inj (Tryd.func3.symm.trans hfn)).symm
  refine ⟨by kernel_rfl, fun j t ht => ?_⟩
  rw [Tryd.params3] at ht
  have hm : t ∈ #[22, 22, 23] := Array.mem_of_getElem? ht
  have all : ∀ t ∈ #[22, 22, 23], Tryd.prog.wantsStandIn t = false := by
    have : (#[22, 22, 23].all fun t => !Tryd.prog.wantsStandIn t) = true := by kernel_rfl
    intro t ht
    simpa using (Array.all_eq_true_iff_forall_mem.1 this) t ht
  exact all t hm
theorem proved : Rows.FnExactRangeNodesCardSaid :=
  Claim7.holds_tied_plain_at .later [] _ _ _ _ over (fun _ h => by cases h) (by kernel_rfl) (fun _ h => by cases h) fnExactRangeNodes_row_tie rfl ⟨rfl, rfl⟩ (by kernel_rfl) rfl plain (by kernel_rfl)
end Go.Proofs.YtgilgmnibafohaaDoor.fnExactRangeNodes
