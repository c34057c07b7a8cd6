/- The nodes of a compact range cover it without gaps. -/
import Derived.Test.YtgilgmnibafohaaDoorTabW
import Derived.Test.YtgilgmnibafohaaDoorImplNodes
import Derived.Test.YtgilgmnibafohaaDoorWorks
import Derived.Test.YtgilgmnibafohaaDoorPlain3
namespace Go.Proofs.YtgilgmnibafohaaDoor.fnRangeNodesCover
open Go.ChangeShapes Go.WideShapes Go.ChangeAt Go.RowKit
theorem coverAt (l i pos : Nat) (hl : l ≤ 63) (hi : i * 2 ^ l = pos) (hp : pos + 2 ^ l < 18446744073709551616) (w : World) :
    Calls Tryd.prog 9 #[(.agg #[.int .u64 l, .int .u64 i])] w fun e w' => e = .returned (.tuple #[.int .u64 (pos : Nat), .int .u64 ((pos + 2 ^ l : Nat) : Int)]) ∧ Below w.heap.size w w' := by
  have h2 := Nat.two_pow_pos l
  have hle : i ≤ pos := by rw [← hi]; exact Nat.le_mul_of_pos_right _ h2
  have e1 : IntKind.u64.wrap ((i : Int) * 2 ^ l) = (pos : Int) := by
    have h : ((i * 2 ^ l : Nat) : Int) = (i : Int) * 2 ^ l := by simp
    rw [← h, hi]; exact wrapN _ (by omega)
  have e2 : IntKind.u64.wrap ((i : Int) + 1) = ((i + 1 : Nat) : Int) := by
    have := wrapN (i + 1) (by omega)
    simpa using this
  have e3 : IntKind.u64.wrap (IntKind.u64.wrap ((i : Int) + 1) * 2 ^ l) = ((pos + 2 ^ l : Nat) : Int) := by
    rw [e2]
    have h : (((i + 1) * 2 ^ l : Nat) : Int) = ((i + 1 : Nat) : Int) * 2 ^ l := by simp
    rw [← h, Nat.add_mul, Nat.one_mul, hi]; exact wrapN _ hp
  have := implCoverage (l : Int) (i : Int) (by omega) (by omega) w
  rw [Int.toNat_natCast, e1, e3] at this
  exact this
set_option maxHeartbeats 1000000 in
theorem walkAt (b e : Nat) (he : e < 18446744073709551616) (hle : b ≤ e) (he2 : e ≤ 1152921504606846976) (w : World) (hT : Tab w) :
    Calls Tryd.prog 4 #[.int .u64 b, .int .u64 e] w fun e w' => e = .returned (.bool true) ∧ Below w.heap.size w w' := by
  have H := implNodes b e hle he (.slice none 0 0) [] w hT ⟨none, 0, rfl, Nat.le_refl _, fun h => absurd h (by decide)⟩ (by simp [Room])
  rw [List.nil_append] at H
  have hpl := Pl.pieces_len b e he
  obtain ⟨L, hL⟩ : ∃ L, Pl.pieces b e = L := ⟨_, rfl⟩
  rw [hL] at H hpl
  have HL : Hid (Pl.pieces b e = L ∧ e < 18446744073709551616) := ⟨hL, he⟩
  have hg : ¬ (e : Int) < (b : Int) := by omega
  have hg2 : ¬ 1152921504606846976 < (e : Int) := by omega
  have HE : Hid (e ≤ 1152921504606846976) := he2
  clear hT hL he he2
  go_enter Tryd.func4, Tryd.ntmps4
  go_wp2_with fail
  refine H.mono ?_; rintro e w1 ⟨v, rfl, hown, hB1⟩
  obtain ⟨A, cap, rfl, hcap, hat⟩ := NodesR.of_own hown
  clear hown H
  go_wp2_with fail
  go_loopw [5, 22] (fun pv kv wr => ∃ pos k : Nat, k ≤ L.length ∧ pv = .int .u64 pos ∧ kv = .int .i64 k ∧ Hid (Pl.pieces pos e = L.drop k ∧ pos ≤ e) ∧ Below w1.heap.size w1 wr) (fun _ kv _ => L.length - (intOf kv).toNat)
  case atStart => exact ⟨b, 0, Nat.zero_le _, rfl, rfl, ⟨by simpa using HL.out.1, hle⟩, Below.refl _ _⟩
  case round =>
    obtain ⟨pos, k, hk, rfl, rfl, HP, hB⟩ := hrel
    by_cases hkl : k < L.length
    · obtain ⟨g, o, rfl, hc⟩ := hat (by omega)
      obtain ⟨c1, c2⟩ := hc k hkl
      have c1 := (hB.cell (World.block_lt_of_cell? w1 _ c1)).trans c1
      have c2 := (hB.cell (World.block_lt_of_cell? w1 _ c2)).trans c2
      have hpe : pos < e := by
        rcases Nat.lt_or_ge pos e with h | h
        · exact h
        · have h1 := HP.out.1
          rw [Pl.pieces, Pl.pcs_nil _ _ _ _ h] at h1
          have := congrArg List.length h1
          rw [List.length_drop] at this
          simp at this; omega
      obtain ⟨l, hl, _, hst, hdv, hle2⟩ := Pl.pieces_step hpe HL.out.2
      have hdr := HP.out.1
      rw [hst, List.drop_eq_getElem_cons hkl] at hdr
      injection hdr with hd1 hd2
      have HN : Hid (Pl.pieces (pos + 2 ^ l) e = L.drop (k + 1) ∧ pos + 2 ^ l ≤ e) := ⟨hd2, hle2⟩
      rw [← hd1] at c1 c2
      have HC := coverAt l (pos / 2 ^ l) pos hl hdv (by have := HL.out.2; omega)
      have hpos := Nat.two_pow_pos l
      have hnx : ¬ ((pos + 2 ^ l : Nat) : Int) ≤ (pos : Int) := by omega
      generalize pos / 2 ^ l = q at c2 HC
      generalize pos + 2 ^ l = pos' at HC HN hnx
      have hk1 : (k : Int) < (L.length : Int) := by omega
      have HC' : Hid (∀ (w : World), Calls Tryd.prog 9 #[Value.agg #[.int .u64 (l : Int), .int .u64 (q : Int)]] w fun e w' => e = .returned (.tuple #[.int .u64 (pos : Nat), .int .u64 (pos' : Int)]) ∧ Below w.heap.size w w') := HC
      simp only [] at c1 c2
      clear HC hdv hst hd1 hd2 hle2 hpe hc hat hpos HP
      go_wp2_with (go_at_call 9; refine (HC'.out _).mono ?_; rintro e w' ⟨rfl, hb'⟩)
      go_roundw
      case rel => exact ⟨pos', k + 1, by omega, rfl, by go_num, HN, (hB.alloc hB.size _).trans (hb'.mono (by have := hB.size; simp; omega))⟩
      case measure => simp [intOf] <;> omega
    · have hk1 : ¬ (k : Int) < (L.length : Int) := by omega
      have hpe : pos = e := by
        rcases Nat.lt_or_ge pos e with h | h
        · obtain ⟨l, hl, _, hst, hdv, hle2⟩ := Pl.pieces_step h HL.out.2
          have h1 := HP.out.1
          rw [hst, List.drop_of_length_le (by omega)] at h1
          cases h1
        · have := HP.out.2; omega
      subst hpe
      go_wp2_with (go_at_call 8; refine (works_c _).mono ?_; rintro e w' ⟨rfl, hb⟩)
      go_ret
      exact ⟨rfl, (hB1.trans (hB.mono hB1.size)).trans (Below.mono (by assumption) (by have := hB1.size; have := hB.size; omega))⟩
theorem walk (a0 : Int) (w0 : 0 ≤ a0 ∧ a0 < 18446744073709551616) (a1 : Int) (w1 : 0 ≤ a1 ∧ a1 < 18446744073709551616) (w : World) (hT : Tab w) :
    Calls Tryd.prog 4 #[.int .u64 a0, .int .u64 a1] w fun e w' => e = .returned (.bool true) ∧ Below w.heap.size w w' := by
  obtain ⟨b, rfl⟩ := Int.eq_ofNat_of_zero_le w0.1
  obtain ⟨e, rfl⟩ := Int.eq_ofNat_of_zero_le w1.1
  by_cases hle : e < b
  · have hle' : (e : Int) < (b : Int) := by omega
    clear hT
    go_enter Tryd.func4, Tryd.ntmps4
    go_wp2
    go_ret
    exact ⟨rfl, Below.refl _ _⟩
  · by_cases he : e ≤ 1152921504606846976
    · exact walkAt b e (by omega) (by omega) he w hT
    · have hle' : ¬ (e : Int) < (b : Int) := by omega
      have he' : 1152921504606846976 < (e : Int) := by omega
      clear hT he
      go_enter Tryd.func4, Tryd.ntmps4
      go_wp2
      go_ret
      exact ⟨rfl, Below.refl _ _⟩
theorem laid_met (os : Os) : laidMet Tryd.prog Rows.fnRangeNodesCoverRow.laid ((laidWorld os).forCall (fun _ _ => 0) ⟨#[], #[.int .u64 0, .int .u64 0], []⟩).memory :=
  laidMet_of_run' 8 (by kernel_rfl) (by kernel_rfl)
theorem reads (os : Os) {H : Type} (enc : TypeId × Value → H) : ∃ places, DataW.whole enc Tryd.prog ((laidWorld os).forCall (fun _ _ => 0) ⟨#[], #[.int .u64 0, .int .u64 0], []⟩).memory Tryd.f4.params.toList Rows.fnRangeNodesCoverSpec.vars false (#[.int .u64 0, .int .u64 0] : Array Value).toList 8 = some ([.lit (.int .u64 0), .lit (.int .u64 0)], [], places) :=
  ⟨[], by kernel_rfl⟩
set_option maxRecDepth 100000 in
theorem contract (H : Type) (enc : TypeId × Value → H) (W : World) (base : Nat) (args : Array Value) (ds gs : List (DataW H)) (before : List MemPlace)
    (hval0 : ∀ (j : Nat) t v, Tryd.f4.params[j]? = some t → args[j]? = some v → Value.okWide Tryd.prog W .any base t v)
    (hW : DataW.Whole enc Tryd.prog Tryd.f4.params.toList Rows.fnRangeNodesCoverSpec.vars false W args.toList ds gs before) (hL : laidMetH Tryd.prog Rows.fnRangeNodesCoverRow.laid W) :
    Calls Tryd.prog 4 args W fun e W' => ∃ v, e = .returned v ∧ Rows.fnRangeNodesCoverSpec.post enc Tryd.prog Tryd.f4 false true false false W args v W' := by
  have hval : ∀ (j : Nat) t v, Tryd.f4.params[j]? = some t → args[j]? = some v → Value.okWide Tryd.prog W .any base t v := hval0
  have hW' := hW
  obtain ⟨p, q, hA0, hV, rfl, hfz, hnd⟩ := hW
  have hA : DataW.TrodAll enc Tryd.prog W 0 (fun _ => true) true Tryd.f4.params.toList args.toList ds p := hA0
  rw [Tryd.params4] at hA hval
  obtain ⟨v0, vs0, d0, ds0, p0, q0, hargs, rfl, rfl, h0, r0⟩ := trodAll_cons hA
  obtain ⟨v1, vs1, d1, ds1, p1, q1, rfl, rfl, rfl, h1, r1⟩ := trodAll_cons r0
  obtain ⟨rfl, rfl, rfl⟩ := trodAll_nil r1
  obtain rfl : args = #[v0, v1] := by cases args; simp_all
  obtain ⟨rfl, rfl⟩ := trodVars_none hV
  have k0 := h0
  have lt0 : ∀ x ∈ p0, x.block < W.heap.size := by obtain ⟨m, hm⟩ := k0; exact DataW.trod_lt m _ _ _ hm
  obtain ⟨a0, rfl, hd0, hp0, w0⟩ := open_int Tryd.underlying22 (hval 0 22 v0 rfl rfl) h0
  have k1 := h1
  have lt1 : ∀ x ∈ p1, x.block < W.heap.size := by obtain ⟨m, hm⟩ := k1; exact DataW.trod_lt m _ _ _ hm
  obtain ⟨a1, rfl, hd1, hp1, w1⟩ := open_int Tryd.underlying22 (hval 1 22 v1 rfl rfl) h1
  refine (walk a0 (bound_u64 w0) a1 (bound_u64 w1) W (tab_of hL)).mono fun e W' ⟨he, bel⟩ => ?_
  subst he
  exact ⟨_, rfl, _, _, _, [], _, [], hW', trodAll_mk1 (shut_bool Tryd.underlying4 _), (trodAll_cons_mk (Below.trod laidOut (by kernel_rfl) (of_decide_eq_true (by kernel_rfl)) k0 bel lt0) (trodAll_cons_mk (Below.trod laidOut (by kernel_rfl) (of_decide_eq_true (by kernel_rfl)) k1 bel lt1) trodAll_mk0)), rfl, bel.frame _, fun h => by cases h⟩
set_option maxRecDepth 100000 in
theorem lifted (os : Os) (started : os.Started) (H : Type) (enc : TypeId × Value → H) (F : Stop.Interp) :
    ReturnsInHanded {} Tryd.checked os 4 .any ((OpenSpec.ofChange Rows.fnRangeNodesCoverSpec).preRow enc Tryd.prog Tryd.f4 Rows.fnRangeNodesCoverRow.domain false Rows.fnRangeNodesCoverRow.laid) (((OpenSpec.ofChange Rows.fnRangeNodesCoverSpec).at F).post enc Tryd.prog Tryd.f4 false true false false) := by
  obtain ⟨places, hx⟩ := reads os enc
  refine returnsInHanded_of_row (C := Tryd.checked) (s := OpenSpec.ofChange Rows.fnRangeNodesCoverSpec) own started (by kernel_rfl) Tryd.func4
    (witness_row_at (enc := enc) (C := Tryd.checked) false (laidWorld os) #[.int .u64 0, .int .u64 0] rfl (by kernel_rfl) (by kernel_rfl) (by kernel_rfl)
      (OpenSpec.preRow_of_cond 8 hx (by kernel_rfl) (fun k hk => by cases hk) (by kernel_rfl) (laid_met os))) ?_
  intro W base args ds gs before hval hW _ _ _ hL _ _
  exact contract H enc W base args ds gs before hval hW hL
theorem over : Rows.FnRangeNodesCoverSaid :=
  OpenClaim.holds_of_cond 4 Tryd.f4 rfl rfl rfl rfl rfl rfl rfl ⟨rfl, rfl, rfl, rfl, rfl⟩ rfl rfl rfl rfl rfl (by kernel_rfl) Tryd.func4 (by kernel_rfl)
    (of_decide_eq_true (by kernel_rfl)) (by unfold Func.isWrapper; first | (rw [if_pos (by decide +kernel)]; kernel_rfl) | (rw [if_neg (by decide +kernel)]; exact ⟨rfl, rfl⟩))
    (fun os started H enc _ F => by rw [OpenClaim.pre_eq_preRow]; exact lifted os started H enc F)
theorem plain (f : FuncId) (fn : Func) (hf : Tryd.pinned.checked.prog.funcNamed "loop.example/pub-logproofs/laws.FnRangeNodesCover" = some f) (hfn : Tryd.pinned.checked.prog.funcs[f]? = some fn) :
    false = Tryd.pinned.checked.prog.looks [] ∧ ∀ (j : Nat) t, fn.params[j]? = some t → Tryd.pinned.checked.prog.wantsStandIn t = false := by
  obtain rfl : f = 4 := Option.some.inj ((show Tryd.prog.funcNamed "loop.example/pub-logproofs/laws.FnRangeNodesCover" = some 4 by kernel_rfl).symm.trans hf) |>.symm
  obtain rfl : fn = Tryd.f4 := (Option.some.inj (Tryd.func4.symm.trans hfn)).symm
  refine ⟨by kernel_rfl, fun j t ht => ?_⟩
  rw [Tryd.params4] at ht
  have hm : t ∈ #[22, 22] := Array.mem_of_getElem? ht
  have all : ∀ t ∈ #[22, 22], Tryd.prog.wantsStandIn t = false := by
    have : (#[22, 22].all fun t => !Tryd.prog.wantsStandIn t) = true := by kernel_rfl
    intro t ht
    simpa using (Array.all_eq_true_iff_forall_mem.1 this) t ht
  exact all t hm
theorem proved : Rows.FnRangeNodesCoverCardSaid :=
  Claim7.holds_tied_plain_at .later [] _ _ _ _ over (fun _ h => by cases h) (by kernel_rfl) (fun _ h => by cases h) fnRangeNodesCover_row_tie rfl ⟨rfl, rfl⟩ (by kernel_rfl) rfl plain (by kernel_rfl)
end Go.Proofs.YtgilgmnibafohaaDoor.fnRangeNodesCover
