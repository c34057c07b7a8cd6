/- Rehashed there are as many hashes as a proof has. -/
import Derived.Test.YtniodnkejpbheaaFmtOpenH
import Derived.Test.YtniodnkejpbheaaFmtImplPlan
import Derived.Test.YtniodnkejpbheaaFmtImplReh
import Derived.Test.YtniodnkejpbheaaFmtImplVer
import Derived.Test.YtniodnkejpbheaaFmtRehLaw
import Derived.Test.YtniodnkejpbheaaFmtSplit
namespace Go.Proofs.YtniodnkejpbheaaFmt.fnRehashCount
open Go.ChangeShapes Go.WideShapes Go.ChangeAt Go.RowKit
set_option maxRecDepth 100000
theorem reh_len {h : Pl.HF} {H M : List (List Nat)} {b e : Nat} (hl : H.length = M.length) : (Pl.reh h H b e).length = (Pl.reh h M b e).length := by
  unfold Pl.reh
  split
  · simp [hl]
  · exact hl
theorem count_law (h : Pl.HF) (i s : Nat) (hi : i < s) (hs : s < 18446744073709551616) (H : List (List Nat)) (hH : H.length = (Pl.planL 0 i s).tail.length) :
    (Pl.reh h H (sk (Pl.planB 0 i s) (Pl.planE 0 i s)) (skE (Pl.planB 0 i s) (Pl.planE 0 i s))).length = (Pl.dirs i s).length := by
  have hr : (List.replicate s ([] : List Nat)).length = s := List.length_replicate
  have h1 := incl_reh h (List.replicate s []) i (by rw [hr]; exact hi) (by rw [hr]; exact hs)
  have h2 := Pl.pathL_length h i (List.replicate s [])
  rw [hr] at h1 h2
  rw [← h2, ← h1]
  exact reh_len (by rw [hH, nodeHs_length])
theorem keep1 {w W w' : World} (h : Below w.heap.size w W) (hb : Below W.heap.size W w') : Below w.heap.size w w' := h.trans (hb.mono h.size)
theorem off_old {w : World} {v : Value} {l : List Nat} {g B : Nat} (h : BytesR w v l) (hl : 0 < l.length) (hB : w.heap.size ≤ B) (hg : B ≤ g) : Off g v := fun A n c e => by
  subst e
  have := h.lt hl
  omega
set_option maxHeartbeats 2000000 in
theorem walkAt (h : Pl.HF) (ok : h.ok) (i s : Nat) (hi : i < s) (hs : s < 18446744073709551616) (v : Value) (l : List Nat) (hl2 : l.length = 2) (w : World) (hT : Tab w) (hH : Handle w) (hv : BytesR w v l) :
    Calls Tryf.prog 11 #[hashV h, .int .u64 (i : Int), .int .u64 (s : Int), v] w fun e w' => e = .returned (.bool true) ∧ Below w.heap.size w w' := by
  have HB := Lib.hid (fun C => (Below.refl w.heap.size w).alloc (Nat.le_refl _) (.cells C 42))
  obtain ⟨A, cap, rfl, hcap, hby, hat0⟩ := id hv
  have HIP := Lib.hid (fun W (hT : Tab W) => implIncl i s hi hs W hT)
  have hpl : (Pl.planL 0 i s).tail.length ≤ 1000 := by
    have := Pl.plan_len (l := 0) (i := i) (s := s) (by simpa using hi) (by omega)
    simp; omega
  have hsk : skE (Pl.planB 0 i s) (Pl.planE 0 i s) ≤ (Pl.planL 0 i s).tail.length := by
    rw [(sk_plan 0 i s).2]
    split
    · omega
    · unfold Pl.planL; simp [Pl.sibs_length] <;> omega
  have hcl := count_law h i s hi hs (List.replicate (Pl.planL 0 i s).tail.length l) (by simp)
  have HRI := fun (W : World) (u : Value) (hT : Tab W) (hu : HashesR W u (List.replicate (Pl.planL 0 i s).tail.length l)) => rehIncl_c h ok i s _ _ _ _ _ u (List.replicate (Pl.planL 0 i s).tail.length l) W hT (fun W hT => inclusion_c i s hi hs W hT) hu ⟨by rw [List.length_replicate]; omega, fun x hx => by rw [List.eq_of_mem_replicate hx]; omega⟩ (by simp) (by simpa using hsk)
  have HPL := Lib.hid (fun w => pathLength_c i s hi hs w)
  have HPr := Lib.hid (fun (W : World) (hb : Below w.heap.size w W) => proves_c W (hH.below hb))
  have HTT := Lib.hid (fun (W : World) (hb : Below w.heap.size w W) => hT.below hb)
  have HV := Lib.hid (fun (W : World) (hb : Below w.heap.size w W) => hv.below hb)
  have HOff := Lib.hid (fun (g B : Nat) (h1 : w.heap.size ≤ B) (h2 : B ≤ g) => off_old (B := B) hv (by omega) h1 h2)
  have hg : ¬ (s : Int) ≤ (i : Int) := by omega
  generalize (Pl.planL 0 i s).tail = N at *
  generalize sk (Pl.planB 0 i s) (Pl.planE 0 i s) = b at *
  generalize skE (Pl.planB 0 i s) (Pl.planE 0 i s) = e at *
  generalize 0 + Pl.up 0 i s = el at *
  generalize Pl.ephI 0 i s = ei at *
  generalize hn : N.length = n at *
  generalize (Pl.dirs i s).length = d at *
  have HRI2 : Hid (∀ (W : World) (u : Value), Tab W → HashesR W u (List.replicate n l) → Calls Tryf.prog 26 #[hashV h, .int .u64 (i : Int), .int .u64 (s : Int), u] W fun r w' => ∃ A3 c3, r = .returned (.tuple #[.slice A3 d c3, .bool true]) ∧ Below W.heap.size W w') := Lib.hid (fun W u hT hu => (HRI W u hT hu).mono fun r w' ⟨v, e1, hv, hb⟩ => by
    obtain ⟨A3, c3, rfl, _⟩ := hv
    exact ⟨A3, c3, by rw [e1, hcl], hb⟩)
  clear HRI hcl hsk hT hH hv hby hat0 ok hi hs
  rw [hl2] at HV HOff ⊢
  obtain ⟨Ah, Bh, Ch⟩ := h
  unfold hashV at HRI2 ⊢
  simp only [] at HRI2 ⊢
  have hn1 : (n : Int) ≤ 1000 := by omega
  go_enter Tryf.func11, Tryf.ntmps11
  go_wp2_with fail
  refine (HIP.out _ (HTT.out _ (HB.out _))).mono ?_; rintro r w1 ⟨v1, rfl, hv1, hb1⟩
  obtain ⟨An, cn, rfl, _, _⟩ := id hv1
  rw [hn]
  have B1 := (HB.out #[.int .u32 (Ah : Int), .int .u32 (Bh : Int), .int .u32 (Ch : Int)]).trans (hb1.mono (by simp))
  have K1 : Blk w1 w.heap.size 42 #[.int .u32 (Ah : Int), .int .u32 (Bh : Int), .int .u32 (Ch : Int)] := (Blk.new w _ _).below' hb1
  clear hb1 hv1 HB HIP
  have hww := K1.lt
  go_wp2_with fail
  have hb2 := (Below.refl w1.heap.size w1).alloc (Nat.le_refl _) (.cells #[.slice An n cn, .int .u64 (el : Int), .int .u64 (ei : Int), .int .i64 (b : Int), .int .i64 (e : Int)] 28)
  have B2 := B1.trans (hb2.mono B1.size)
  have K2 := K1.below' hb2
  have hz : (w1.alloc (.cells #[.slice An n cn, .int .u64 (el : Int), .int .u64 (ei : Int), .int .i64 (b : Int), .int .i64 (e : Int)] 28)).heap.size = w1.heap.size + 1 := by simp
  go_loopw [11, 35] (fun ov kv wr => ∃ (k : Nat) (Ao : Option Addr) (co : Nat), k ≤ n ∧ kv = .int .i64 k ∧ ov = .slice Ao k co ∧ Hid (Built wr (w1.heap.size + 1) (.slice Ao k co) (List.replicate k l)) ∧ Hid (Below w.heap.size w wr) ∧ Hid (Blk wr w.heap.size 42 #[.int .u32 (Ah : Int), .int .u32 (Bh : Int), .int .u32 (Ch : Int)]) ∧ w1.heap.size + 1 ≤ wr.heap.size) (fun _ kv _ => n - (intOf kv).toNat)
  case atStart =>
    have ho := World.ownsRow_lit (base := w1.heap.size + 1) (e := 51) (size := 1) (w1.alloc (.cells #[.slice An n cn, .int .u64 (el : Int), .int .u64 (ei : Int), .int .i64 (b : Int), .int .i64 (e : Int)] 28)) #[] 0 (by simp) (by unfold maxLen; omega) rfl
    rw [World.size_alloc] at ho
    exact ⟨0, some ⟨w1.heap.size + 1, 0, none⟩, 0, Nat.zero_le _, rfl, rfl, Lib.hid (by simpa using Built.nil ho), Lib.hid (B2.alloc B2.size _), Lib.hid (K2.alloc _), by simp⟩
  case round =>
    obtain ⟨k, Ao, co, hk, rfl, rfl, HBu, HW, HK, hsz⟩ := hrel
    by_cases hkl : k < n
    · have hk1 : (k : Int) < (n : Int) := by omega
      have hk0 : (0 : Int) ≤ (k : Int) := by omega
      clear B1 K1 hb2 B2 K2 hz
      go_wp2_with (at_builtin; (refine wpList_append_built rfl (.tmp 37) (.tmp 39) rfl (w1.heap.size + 1) (.slice Ao k co) (List.replicate k l) (HBu.out.below ((Below.refl _ _).alloc (Nat.le_refl _) _)) rfl wr.heap.size (.slice A 2 cap) l rfl (by simp) (HV.out _ (HW.out.alloc HW.out.size _)) (fun hl g hg => by
        obtain ⟨us, ho, _⟩ := HBu.out
        have h1 := ho.lt g hg
        exact HOff.out g w.heap.size (Nat.le_refl _) (by omega)) (by simp; omega) (by simp; omega) ?_; intro A5 cap5 w5 hB5 hb5; rw [List.length_replicate]))
      go_roundw
      case rel =>
        rw [List.length_replicate, ← List.replicate_succ'] at hB5
        exact ⟨k + 1, _, _, by omega, by go_num, rfl, Lib.hid hB5, Lib.hid ((HW.out.alloc HW.out.size _).trans (hb5.mono (by omega))), Lib.hid ((HK.out.alloc _).below hb5 (by omega)), by have := hb5.size; simp at this; omega⟩
      case measure => simp [intOf] <;> omega
    · have hk1 : ¬ (k : Int) < (n : Int) := by omega
      obtain rfl : k = n := by omega
      clear B1 K1 hb2 B2 K2 hz
      obtain ⟨c1, c2, c3, _⟩ := HK.out.three
      go_wp2_with fail
      refine (HRI2.out _ _ (HTT.out _ HW.out) HBu.out.hashes).mono ?_; rintro r w3 ⟨A3, c3', rfl, hb3⟩
      have B3 := keep1 HW.out hb3
      clear c1 c2 c3 hb3 HK HRI2
      go_wp2_with fail
      refine (HPL.out _).mono ?_; rintro e w' ⟨rfl, rfl⟩
      go_wp2_with fail
      refine (HPr.out _ B3).mono ?_; rintro e w4 ⟨rfl, hb4⟩
      have B4 := keep1 B3 hb4
      clear hb4
      go_wp2_with fail
      go_ret
      exact ⟨rfl, B4⟩
theorem walk (F : Stop.Interp) (w : World) (_hF : F.answers w.tape) (h : Pl.HF) (ok : h.ok) (a1 : Int) (w1 : 0 ≤ a1 ∧ a1 < 18446744073709551616) (a2 : Int) (w2 : 0 ≤ a2 ∧ a2 < 18446744073709551616) (v : Value) (l : List Nat) (hv : BytesR w v l) (hT : LaidIsH w) :
    Calls Tryf.prog 11 #[hashV h, .int .u64 a1, .int .u64 a2, v] w fun e w' => e = .returned (.bool true) ∧ Below w.heap.size w w' := by
  obtain ⟨i, rfl⟩ := Int.eq_ofNat_of_zero_le w1.1
  obtain ⟨s, rfl⟩ := Int.eq_ofNat_of_zero_le w2.1
  by_cases hc : i < s ∧ l.length = 2
  · exact walkAt h ok i s hc.1 (by omega) v l hc.2 w hT.1 hT.2 hv
  obtain ⟨A, cap, rfl, hcap, hby, hat0⟩ := id hv
  have HB := Lib.hid (fun C => (Below.refl w.heap.size w).alloc (Nat.le_refl _) (.cells C 42))
  obtain ⟨Ah, Bh, Ch⟩ := h
  unfold hashV
  clear hT hv hat0 hby
  by_cases hz : (2147483647 : Int) < (l.length : Int)
  · clear hc w1 w2
    go_enter Tryf.func11, Tryf.ntmps11
    go_wp2_with fail
    go_ret
    exact ⟨rfl, HB.out _⟩
  by_cases hlt : i < s
  · have hg : ¬ (s : Int) ≤ (i : Int) := by omega
    have hl : ¬ (l.length : Int) = 2 := by omega
    clear hc w1 w2 hlt
    go_enter Tryf.func11, Tryf.ntmps11
    go_wp2_with fail
    go_ret
    exact ⟨rfl, HB.out _⟩
  · have hg : (s : Int) ≤ (i : Int) := by omega
    clear hc w1 w2 hlt
    go_enter Tryf.func11, Tryf.ntmps11
    go_wp2_with fail
    go_ret
    exact ⟨rfl, HB.out _⟩
theorem reads (os : Os) {H : Type} (enc : TypeId × Value → H) : ∃ places, DataW.whole enc Tryf.prog ((laidWorldH os).forCall (fun _ _ => 0) ⟨#[], #[.agg #[.int .u32 0, .int .u32 0, .int .u32 0], .int .u64 0, .int .u64 0, .slice none 0 0], []⟩).memory Tryf.f11.params.toList Rows.fnRehashCountSpec.vars false (#[.agg #[.int .u32 0, .int .u32 0, .int .u32 0], .int .u64 0, .int .u64 0, .slice none 0 0] : Array Value).toList 8 = some ([.agg [.lit (.int .u32 0), .lit (.int .u32 0), .lit (.int .u32 0)], .lit (.int .u64 0), .lit (.int .u64 0), .nil], [], places) :=
  ⟨[], by kernel_rfl⟩
set_option maxRecDepth 100000 in
theorem contract (F : Stop.Interp) (H : Type) (enc : TypeId × Value → H) (W : World) (base : Nat) (args : Array Value) (ds gs : List (DataW H)) (before : List MemPlace) (hF : F.told.answers W.tape)
    (hval0 : ∀ (j : Nat) t v, Tryf.f11.params[j]? = some t → args[j]? = some v → Value.okWide Tryf.prog W .any base t v)
    (hW : DataW.Whole enc Tryf.prog Tryf.f11.params.toList Rows.fnRehashCountSpec.vars false W args.toList ds gs before) (hL : laidMetH Tryf.prog Rows.fnRehashCountRow.laid W) :
    Calls Tryf.prog 11 args W fun e W' => ∃ v, e = .returned v ∧ ((OpenSpec.ofChange Rows.fnRehashCountSpec).at F.told).post enc Tryf.prog Tryf.f11 false true false false W args v W' := by
  have hval : ∀ (j : Nat) t v, Tryf.f11.params[j]? = some t → args[j]? = some v → Value.okWide Tryf.prog W .any base t v := hval0
  have hW' := hW
  obtain ⟨p, q, hA0, hV, rfl, hfz, hnd⟩ := hW
  have hA : DataW.TrodAll enc Tryf.prog W 0 (fun _ => true) true Tryf.f11.params.toList args.toList ds p := hA0
  rw [Tryf.params11] at hA hval
  obtain ⟨v0, vs0, d0, ds0, p0, q0, hargs, rfl, rfl, h0, r0⟩ := trodAll_cons hA
  obtain ⟨v1, vs1, d1, ds1, p1, q1, rfl, rfl, rfl, h1, r1⟩ := trodAll_cons r0
  obtain ⟨v2, vs2, d2, ds2, p2, q2, rfl, rfl, rfl, h2, r2⟩ := trodAll_cons r1
  obtain ⟨v3, vs3, d3, ds3, p3, q3, rfl, rfl, rfl, h3, r3⟩ := trodAll_cons r2
  obtain ⟨rfl, rfl, rfl⟩ := trodAll_nil r3
  obtain rfl : args = #[v0, v1, v2, v3] := by cases args; simp_all
  obtain ⟨rfl, rfl⟩ := trodVars_none hV
  have k0 := h0
  have lt0 : ∀ x ∈ p0, x.block < W.heap.size := by obtain ⟨m, hm⟩ := k0; exact DataW.trod_lt m _ _ _ hm
  obtain ⟨hh0, rfl, w0⟩ := openHash (hval 0 42 v0 rfl rfl) h0
  have k1 := h1
  have lt1 : ∀ x ∈ p1, x.block < W.heap.size := by obtain ⟨m, hm⟩ := k1; exact DataW.trod_lt m _ _ _ hm
  obtain ⟨a1, rfl, hd1, hp1, w1⟩ := open_int Tryf.underlying22 (hval 1 22 v1 rfl rfl) h1
  have k2 := h2
  have lt2 : ∀ x ∈ p2, x.block < W.heap.size := by obtain ⟨m, hm⟩ := k2; exact DataW.trod_lt m _ _ _ hm
  obtain ⟨a2, rfl, hd2, hp2, w2⟩ := open_int Tryf.underlying22 (hval 2 22 v2 rfl rfl) h2
  have k3 := h3
  have lt3 : ∀ x ∈ p3, x.block < W.heap.size := by obtain ⟨m, hm⟩ := k3; exact DataW.trod_lt m _ _ _ hm
  obtain ⟨L3, w3⟩ := openBytes (hval 3 51 v3 rfl rfl) h3
  refine (walk F.told W hF hh0 w0 a1 (bound_u64 w1) a2 (bound_u64 w2) v3 L3 w3 (laidIsH_of hL)).mono fun e W' ⟨he, bel⟩ => ?_
  subst he
  exact ⟨_, rfl, _, _, _, [], _, [], hW', trodAll_mk1 (shut_bool Tryf.underlying4 _), (trodAll_cons_mk (Below.trod laidOut (by kernel_rfl) (of_decide_eq_true (by kernel_rfl)) k0 bel lt0) (trodAll_cons_mk (Below.trod laidOut (by kernel_rfl) (of_decide_eq_true (by kernel_rfl)) k1 bel lt1) (trodAll_cons_mk (Below.trod laidOut (by kernel_rfl) (of_decide_eq_true (by kernel_rfl)) k2 bel lt2) (trodAll_cons_mk (Below.trod laidOut (by kernel_rfl) (of_decide_eq_true (by kernel_rfl)) k3 bel lt3) trodAll_mk0)))), rfl, bel.frame _, fun h => by cases h⟩
set_option maxRecDepth 100000 in
theorem lifted (os : Os) (started : os.Started) (H : Type) (enc : TypeId × Value → H) :
    ReturnsInTold none {} Tryf.checked os 11 .any Input.okWide ((OpenSpec.ofChange Rows.fnRehashCountSpec).preRow enc Tryf.prog Tryf.f11 Rows.fnRehashCountRow.domain false Rows.fnRehashCountRow.laid) (fun F => ((OpenSpec.ofChange Rows.fnRehashCountSpec).at F).post enc Tryf.prog Tryf.f11 false true false false) (aloneAtReturn Tryf.prog) nothingAlways := by
  obtain ⟨places, hx⟩ := reads os enc
  refine returnsInTold_of_row (C := Tryf.checked) (s := OpenSpec.ofChange Rows.fnRehashCountSpec) mayEnter own started (by kernel_rfl) Tryf.func11
    (OpenSpec.witness_stopped_at (enc := enc) (C := Tryf.checked) false (laidWorldH os) #[.agg #[.int .u32 0, .int .u32 0, .int .u32 0], .int .u64 0, .int .u64 0, .slice none 0 0] rfl (by kernel_rfl) (by kernel_rfl) (by kernel_rfl)
      (OpenSpec.preRow_of_cond 8 hx (by kernel_rfl) (fun k hk => by cases hk) (by kernel_rfl) (laid_metH os #[.agg #[.int .u32 0, .int .u32 0, .int .u32 0], .int .u64 0, .int .u64 0, .slice none 0 0]))) ?_
  intro F W base args ds gs before _ hF hval hW _ _ _ hL _
  exact contract F H enc W base args ds gs before hF hval hW hL
theorem proved : Rows.FnRehashCountToldSaid :=
  Claim7.holds_of_told_tied_any_at .later 11 Tryf.f11 "fmt.errorf" [] [] _ _ _ _ _ (by kernel_rfl) rfl rfl rfl laidOut (by kernel_rfl) rfl ⟨rfl, rfl, rfl, rfl, rfl, rfl, rfl⟩ rfl rfl (by kernel_rfl) (by kernel_rfl) Tryf.func11 (by kernel_rfl)
    (of_decide_eq_true (by kernel_rfl)) (by unfold Func.isWrapper; first | (rw [if_pos (by decide +kernel)]; kernel_rfl) | (rw [if_neg (by decide +kernel)]; exact ⟨rfl, rfl⟩)) stopsAre.symm rfl stopKnobs.symm (by kernel_rfl)
    (by kernel_rfl) (by kernel_rfl) (by kernel_rfl) (by kernel_rfl) (by kernel_rfl) (by kernel_rfl) (by kernel_rfl) (by kernel_rfl) (by kernel_rfl) rfl (by kernel_rfl) rfl rfl
    rfl rfl
    rfl mainIs (by kernel_rfl) (by kernel_rfl) (by decide) (by kernel_rfl) fnRehashCount_row_tie
    (OpenClaim.moreEntering_of mayEnter (by kernel_rfl) (by kernel_rfl) (by kernel_rfl) (by kernel_rfl) (by kernel_rfl) (by kernel_rfl) (by kernel_rfl) liftsFinal.symm make)
    ⟨_, WideRow.started_initial, quiet _⟩
    (fun os started _ H enc _ => lifted os started H enc)
end Go.Proofs.YtniodnkejpbheaaFmt.fnRehashCount
