/- Of one size both roots must be the same, without a proof. -/
import Derived.Test.YteilafhajhbdaaaFmtVerC
import Derived.Test.YteilafhajhbdaaaFmtRootsOf
import Derived.Test.YteilafhajhbdaaaFmtFits
import Derived.Test.YteilafhajhbdaaaFmtOpenH
namespace Go.Proofs.YteilafhajhbdaaaFmt.fnConsistencySame
open Go.ChangeShapes Go.WideShapes Go.ChangeAt Go.RowKit
set_option maxRecDepth 100000
theorem keep1 {w W w' : World} (h : Below w.heap.size w W) (hb : Below W.heap.size W w') : Below w.heap.size w w' := h.trans (hb.mono h.size)
theorem kV_same (h : Pl.HF) (r1 r2 : List Nat) (s : Nat) (L : List (List Nat)) : kV h r1 r2 s s L = if L.length = 0 then (if r1 = r2 then 0 else 1) else 2 := by
  have e0 : Pl.rootsOf h r1 0 s s [] true = (r1, r1, true) := by unfold Pl.rootsOf; simp
  have e1 : ∀ (n : Nat) (M : List (List Nat)), Pl.rootsOf h r1 (n + 1) s s M true = (r1, r1, false) := fun n M => by unfold Pl.rootsOf; simp
  unfold kV
  rcases L with _ | ⟨x, L⟩
  · rw [show ([] : List (List Nat)).length = 0 from rfl, e0]
    simp
  · rw [show (x :: L).length = L.length + 1 from rfl, e1]
    simp
set_option maxHeartbeats 2000000 in
theorem main (F : Stop.Interp) (h : Pl.HF) (ok : h.ok) (s : Nat) (Av : Option Addr) (cv : Nat) (P : List (List Nat)) (Axv : Option Addr) (cxv : Nat) (xl : List Nat) (Ayv : Option Addr) (cyv : Nat) (yl : List Nat) (w : World) (hF : F.answers w.tape) (hH : Handle w) (hTb : Tab w) (hss : s < 18446744073709551616) (hv : HashesR w (.slice Av P.length cv) P) (hxv : BytesR w (.slice Axv xl.length cxv) xl) (hyv : BytesR w (.slice Ayv yl.length cyv) yl) (gfP : Fits P) (HFP : Hid (∀ W, Below w.heap.size w W → Calls Tryf.prog 8 #[.slice Av P.length cv] W fun e w' => e = .returned (.bool true) ∧ W = w')) (_zxl : ¬ (2147483647 : Int) < (xl.length : Int)) (_zyl : ¬ (2147483647 : Int) < (yl.length : Int)) (h1 : 1 ≤ s) (gxl : xl.length = 2) (gyl : yl.length = 2) (_ghP : P.length = 0 ∨ IsLeaves P) (HSP : Hid (∀ W, Below w.heap.size w W → Calls Tryf.prog 14 #[.slice Av P.length cv] W fun e w' => e = .returned (.bool true) ∧ W = w')) :
    Calls Tryf.prog 5 #[hashV h, .int .u64 (s : Int), .slice Av P.length cv, .slice Axv xl.length cxv, .slice Ayv yl.length cyv] w fun e w' => e = .returned (.bool true) ∧ Below w.heap.size w w' := by
  have HB := Lib.hid (fun C => (Below.refl w.heap.size w).alloc (Nat.le_refl _) (.cells C 24))
  have HPr := Lib.hid (fun (W : World) (hb : Below w.heap.size w W) => proves_c W (hH.below hb))
  have hd1 : decide (s < 1) = false := decide_eq_false (by omega)
  have hge : ¬ (s : Int) < 1 := by omega
  have HV := Lib.hid (fun (W : World) (hb : Below w.heap.size w W) => verC_any F h ok s s _ _ _ xl yl P W (ans_below hF hb) (hTb.below hb) (hxv.below hb) (hv.below hb) (hyv.below hb) gfP (hH.below hb) h1 (Nat.le_refl _) hss)
  have HX := Lib.hid (fun (W : World) (hb : Below w.heap.size w W) => (hxv.below hb).str)
  have HY := Lib.hid (fun (W : World) (hb : Below w.heap.size w W) => (hyv.below hb).str)
  have hk := kV_same h xl yl s P
  simp only [gxl, gyl] at HV HX HY ⊢
  by_cases hl : P.length = 0
  · rw [if_pos hl] at hk
    by_cases he : xl = yl
    · rw [if_pos he] at hk
      rw [hk] at HV
      subst he
      rw [hl] at HV HFP HSP ⊢
      clear hF hH hTb hv hxv hyv gfP ok _ghP _zxl _zyl gxl gyl hss h1 hk hl
      obtain ⟨Ah, Bh, Ch⟩ := h
      unfold hashV at HV ⊢
      simp only [] at HV ⊢
      go_enter Tryf.func5, Tryf.ntmps5
      go_wp2_with fail
      refine (HFP.out _ (HB.out _)).mono ?_; rintro e w' ⟨rfl, rfl⟩
      go_wp2_with fail
      refine (HSP.out _ (HB.out _)).mono ?_; rintro e w' ⟨rfl, rfl⟩
      go_wp2_with fail
      refine (HV.out _ (HB.out _)).mono ?_; rintro e w1 ⟨rfl, hb1⟩
      have B1 := keep1 (HB.out _) hb1
      have s1 := HX.out _ B1
      have s2 := HY.out _ B1
      clear hb1
      go_wp2_with fail
      refine (HPr.out _ B1).mono ?_; rintro e w3 ⟨rfl, hb3⟩
      have B3 := keep1 B1 hb3
      clear hb3
      go_wp2_with fail
      go_ret
      exact ⟨by first | rfl | (simp <;> omega), B3⟩
    · rw [if_neg he] at hk
      rw [hk] at HV
      have hne := bs_ne hxv.bytes hyv.bytes he
      rw [hl] at HV HFP HSP ⊢
      clear hF hH hTb hv hxv hyv gfP ok _ghP _zxl _zyl gxl gyl hss h1 hk hl he
      obtain ⟨Ah, Bh, Ch⟩ := h
      unfold hashV at HV ⊢
      simp only [] at HV ⊢
      go_enter Tryf.func5, Tryf.ntmps5
      go_wp2_with fail
      refine (HFP.out _ (HB.out _)).mono ?_; rintro e w' ⟨rfl, rfl⟩
      go_wp2_with fail
      refine (HSP.out _ (HB.out _)).mono ?_; rintro e w' ⟨rfl, rfl⟩
      go_wp2_with fail
      refine (HV.out _ (HB.out _)).mono ?_; rintro e w1 ⟨rfl, hb1⟩
      have B1 := keep1 (HB.out _) hb1
      have s1 := HX.out _ B1
      have s2 := HY.out _ B1
      clear hb1
      go_wp2_with fail
      refine (HPr.out _ B1).mono ?_; rintro e w3 ⟨rfl, hb3⟩
      have B3 := keep1 B1 hb3
      clear hb3
      go_wp2_with fail
      go_ret
      exact ⟨by first | rfl | (simp <;> omega), B3⟩
  · rw [if_neg hl] at hk
    rw [hk] at HV
    have hn0 : ((P.length : Int) == 0) = false := beq_eq_false_iff_ne.2 (by omega)
    clear hF hH hTb hv hxv hyv gfP ok _ghP _zxl _zyl gxl gyl hss h1 hk hl
    generalize P.length = np at *
    obtain ⟨Ah, Bh, Ch⟩ := h
    unfold hashV at HV ⊢
    simp only [] at HV ⊢
    go_enter Tryf.func5, Tryf.ntmps5
    go_wp2_with fail
    refine (HFP.out _ (HB.out _)).mono ?_; rintro e w' ⟨rfl, rfl⟩
    go_wp2_with fail
    refine (HSP.out _ (HB.out _)).mono ?_; rintro e w' ⟨rfl, rfl⟩
    go_wp2_with fail
    refine (HV.out _ (HB.out _)).mono ?_; rintro e w1 ⟨rfl, hb1⟩
    have B1 := keep1 (HB.out _) hb1
    clear hb1
    go_wp2_with fail
    refine (HPr.out _ B1).mono ?_; rintro e w3 ⟨rfl, hb3⟩
    have B3 := keep1 B1 hb3
    clear hb3
    go_wp2_with fail
    go_ret
    exact ⟨by first | rfl | (simp <;> omega), B3⟩
set_option maxHeartbeats 2000000 in
theorem walk (F : Stop.Interp) (w : World) (hF : F.answers w.tape) (h : Pl.HF) (ok : h.ok) (a1 : Int) (w1 : 0 ≤ a1 ∧ a1 < 18446744073709551616) (v : Value) (P : List (List Nat)) (hv : HashesR w v P) (xv : Value) (xl : List Nat) (hxv : BytesR w xv xl) (yv : Value) (yl : List Nat) (hyv : BytesR w yv yl) (hT : LaidIsH w) :
    Calls Tryf.prog 5 #[hashV h, .int .u64 a1, v, xv, yv] w fun e w' => e = .returned (.bool true) ∧ Below w.heap.size w w' := by
  obtain ⟨s, rfl⟩ := Int.eq_ofNat_of_zero_le w1.1
  have hss : s < 18446744073709551616 := by omega
  have HB := Lib.hid (fun C => (Below.refl w.heap.size w).alloc (Nat.le_refl _) (.cells C 24))
  obtain ⟨Av, cv, ev, h9v⟩ := id hv
  clear h9v
  obtain ⟨Axv, cxv, exv, h9xv⟩ := id hxv
  clear h9xv
  obtain ⟨Ayv, cyv, eyv, h9yv⟩ := id hyv
  clear h9yv
  subst ev
  subst exv
  subst eyv
  by_cases g0 : ¬ Fits P
  case pos =>
    have HFx : Hid (∀ W, Below w.heap.size w W → Calls Tryf.prog 8 #[.slice Av P.length cv] W fun e w' => e = .returned (.bool false) ∧ W = w') := Lib.hid (fun W hb => (fits1_c (.slice Av P.length cv) P W (hv.below hb)).mono fun _ _ r => r.no g0)
    obtain ⟨Ah, Bh, Ch⟩ := h
    unfold hashV
    clear hT hF hss w1 hv hxv hyv g0 ok
    go_enter Tryf.func5, Tryf.ntmps5
    go_wp2_with fail
    refine (HFx.out _ (HB.out _)).mono ?_; rintro e w' ⟨rfl, rfl⟩
    go_wp2_with fail
    go_ret
    exact ⟨rfl, HB.out _⟩
  have gfP : Fits P := Classical.not_not.1 g0
  clear g0
  have HFP : Hid (∀ W, Below w.heap.size w W → Calls Tryf.prog 8 #[.slice Av P.length cv] W fun e w' => e = .returned (.bool true) ∧ W = w') := Lib.hid (fun W hb => (fits1_c (.slice Av P.length cv) P W (hv.below hb)).mono fun _ _ r => r.yes gfP)
  by_cases g1 : (2147483647 : Int) < (xl.length : Int)
  case pos =>
    obtain ⟨Ah, Bh, Ch⟩ := h
    unfold hashV
    clear hT hF hss w1 hv hxv hyv gfP ok
    go_enter Tryf.func5, Tryf.ntmps5
    go_wp2_with fail
    refine (HFP.out _ (HB.out _)).mono ?_; rintro e w' ⟨rfl, rfl⟩
    go_wp2_with fail
    go_ret
    exact ⟨rfl, HB.out _⟩
  by_cases g2 : (2147483647 : Int) < (yl.length : Int)
  case pos =>
    obtain ⟨Ah, Bh, Ch⟩ := h
    unfold hashV
    clear hT hF hss w1 hv hxv hyv gfP ok
    go_enter Tryf.func5, Tryf.ntmps5
    go_wp2_with fail
    refine (HFP.out _ (HB.out _)).mono ?_; rintro e w' ⟨rfl, rfl⟩
    go_wp2_with fail
    go_ret
    exact ⟨rfl, HB.out _⟩
  by_cases g3 : (s : Int) < 1
  case pos =>
    obtain ⟨Ah, Bh, Ch⟩ := h
    unfold hashV
    clear hT hF hss w1 hv hxv hyv gfP ok
    go_enter Tryf.func5, Tryf.ntmps5
    go_wp2_with fail
    refine (HFP.out _ (HB.out _)).mono ?_; rintro e w' ⟨rfl, rfl⟩
    go_wp2_with fail
    go_ret
    exact ⟨rfl, HB.out _⟩
  by_cases g4 : ¬ (xl.length : Int) = 2
  case pos =>
    obtain ⟨Ah, Bh, Ch⟩ := h
    unfold hashV
    clear hT hF hss w1 hv hxv hyv gfP ok
    go_enter Tryf.func5, Tryf.ntmps5
    go_wp2_with fail
    refine (HFP.out _ (HB.out _)).mono ?_; rintro e w' ⟨rfl, rfl⟩
    go_wp2_with fail
    go_ret
    exact ⟨rfl, HB.out _⟩
  have g4' : xl.length = 2 := by have := Classical.not_not.1 g4; omega
  clear g4
  have g4 : (xl.length : Int) = 2 := by omega
  by_cases g5 : ¬ (yl.length : Int) = 2
  case pos =>
    obtain ⟨Ah, Bh, Ch⟩ := h
    unfold hashV
    clear hT hF hss w1 hv hxv hyv gfP ok
    go_enter Tryf.func5, Tryf.ntmps5
    go_wp2_with fail
    refine (HFP.out _ (HB.out _)).mono ?_; rintro e w' ⟨rfl, rfl⟩
    go_wp2_with fail
    go_ret
    exact ⟨rfl, HB.out _⟩
  have g5' : yl.length = 2 := by have := Classical.not_not.1 g5; omega
  clear g5
  have g5 : (yl.length : Int) = 2 := by omega
  by_cases g6 : ¬ (P.length = 0 ∨ IsLeaves P)
  case pos =>
    have HSx : Hid (∀ W, Below w.heap.size w W → Calls Tryf.prog 14 #[.slice Av P.length cv] W fun e w' => e = .returned (.bool false) ∧ W = w') := Lib.hid (fun W hb => (hashes_s (.slice Av P.length cv) P W (hv.below hb) gfP.1).mono fun _ _ r => r.no g6)
    obtain ⟨Ah, Bh, Ch⟩ := h
    unfold hashV
    clear hT hF hss w1 hv hxv hyv gfP g6 ok
    go_enter Tryf.func5, Tryf.ntmps5
    go_wp2_with fail
    refine (HFP.out _ (HB.out _)).mono ?_; rintro e w' ⟨rfl, rfl⟩
    go_wp2_with fail
    refine (HSx.out _ (HB.out _)).mono ?_; rintro e w' ⟨rfl, rfl⟩
    go_wp2_with fail
    go_ret
    exact ⟨rfl, HB.out _⟩
  have ghP : P.length = 0 ∨ IsLeaves P := Classical.not_not.1 g6
  clear g6
  have HSP : Hid (∀ W, Below w.heap.size w W → Calls Tryf.prog 14 #[.slice Av P.length cv] W fun e w' => e = .returned (.bool true) ∧ W = w') := Lib.hid (fun W hb => (hashes_s (.slice Av P.length cv) P W (hv.below hb) gfP.1).mono fun _ _ r => r.yes ghP)
  exact main F h ok s Av cv P Axv cxv xl Ayv cyv yl w hF hT.handle hT.1 hss hv hxv hyv gfP HFP g1 g2 (by omega) g4' g5' ghP HSP
theorem reads (os : Os) {H : Type} (enc : TypeId × Value → H) : ∃ places, DataW.whole enc Tryf.prog ((laidWorldH os).forCall (fun _ _ => 0) ⟨#[], #[.agg #[.int .u32 0, .int .u32 0, .int .u32 0], .int .u64 0, .slice none 0 0, .slice none 0 0, .slice none 0 0], []⟩).memory Tryf.f5.params.toList Rows.fnConsistencySameSpec.vars false (#[.agg #[.int .u32 0, .int .u32 0, .int .u32 0], .int .u64 0, .slice none 0 0, .slice none 0 0, .slice none 0 0] : Array Value).toList 8 = some ([.agg [.lit (.int .u32 0), .lit (.int .u32 0), .lit (.int .u32 0)], .lit (.int .u64 0), .nil, .nil, .nil], [], places) :=
  ⟨[], by kernel_rfl⟩
set_option maxRecDepth 100000 in
theorem contract (F : Stop.Interp) (H : Type) (enc : TypeId × Value → H) (W : World) (base : Nat) (args : Array Value) (ds gs : List (DataW H)) (before : List MemPlace) (hF : F.told.answers W.tape)
    (hval0 : ∀ (j : Nat) t v, Tryf.f5.params[j]? = some t → args[j]? = some v → Value.okWide Tryf.prog W .any base t v)
    (hW : DataW.Whole enc Tryf.prog Tryf.f5.params.toList Rows.fnConsistencySameSpec.vars false W args.toList ds gs before) (hL : laidMetH Tryf.prog Rows.fnConsistencySameRow.laid W) :
    Calls Tryf.prog 5 args W fun e W' => ∃ v, e = .returned v ∧ ((OpenSpec.ofChange Rows.fnConsistencySameSpec).at F.told).post enc Tryf.prog Tryf.f5 false true false false W args v W' := by
  have hval : ∀ (j : Nat) t v, Tryf.f5.params[j]? = some t → args[j]? = some v → Value.okWide Tryf.prog W .any base t v := hval0
  have hW' := hW
  obtain ⟨p, q, hA0, hV, rfl, hfz, hnd⟩ := hW
  have hA : DataW.TrodAll enc Tryf.prog W 0 (fun _ => true) true Tryf.f5.params.toList args.toList ds p := hA0
  rw [Tryf.params5] at hA hval
  obtain ⟨v0, vs0, d0, ds0, p0, q0, hargs, rfl, rfl, h0, r0⟩ := trodAll_cons hA
  obtain ⟨v1, vs1, d1, ds1, p1, q1, rfl, rfl, rfl, h1, r1⟩ := trodAll_cons r0
  obtain ⟨v2, vs2, d2, ds2, p2, q2, rfl, rfl, rfl, h2, r2⟩ := trodAll_cons r1
  obtain ⟨v3, vs3, d3, ds3, p3, q3, rfl, rfl, rfl, h3, r3⟩ := trodAll_cons r2
  obtain ⟨v4, vs4, d4, ds4, p4, q4, rfl, rfl, rfl, h4, r4⟩ := trodAll_cons r3
  obtain ⟨rfl, rfl, rfl⟩ := trodAll_nil r4
  obtain rfl : args = #[v0, v1, v2, v3, v4] := by cases args; simp_all
  obtain ⟨rfl, rfl⟩ := trodVars_none hV
  have k0 := h0
  have lt0 : ∀ x ∈ p0, x.block < W.heap.size := by obtain ⟨m, hm⟩ := k0; exact DataW.trod_lt m _ _ _ hm
  obtain ⟨hh0, rfl, w0⟩ := openHash (hval 0 24 v0 rfl rfl) h0
  have k1 := h1
  have lt1 : ∀ x ∈ p1, x.block < W.heap.size := by obtain ⟨m, hm⟩ := k1; exact DataW.trod_lt m _ _ _ hm
  obtain ⟨a1, rfl, hd1, hp1, w1⟩ := open_int Tryf.underlying28 (hval 1 28 v1 rfl rfl) h1
  have k2 := h2
  have lt2 : ∀ x ∈ p2, x.block < W.heap.size := by obtain ⟨m, hm⟩ := k2; exact DataW.trod_lt m _ _ _ hm
  obtain ⟨L2, w2⟩ := openHashes (hval 2 25 v2 rfl rfl) h2
  have k3 := h3
  have lt3 : ∀ x ∈ p3, x.block < W.heap.size := by obtain ⟨m, hm⟩ := k3; exact DataW.trod_lt m _ _ _ hm
  obtain ⟨L3, w3⟩ := openBytes (hval 3 30 v3 rfl rfl) h3
  have k4 := h4
  have lt4 : ∀ x ∈ p4, x.block < W.heap.size := by obtain ⟨m, hm⟩ := k4; exact DataW.trod_lt m _ _ _ hm
  obtain ⟨L4, w4⟩ := openBytes (hval 4 30 v4 rfl rfl) h4
  refine (walk F.told W hF hh0 w0 a1 (bound_u64 w1) v2 L2 w2 v3 L3 w3 v4 L4 w4 (laidIsH_of hL)).mono fun e W' ⟨he, bel⟩ => ?_
  subst he
  exact ⟨_, rfl, _, _, _, [], _, [], hW', trodAll_mk1 (shut_bool Tryf.underlying4 _), (trodAll_cons_mk (Below.trod laidOut (by kernel_rfl) (of_decide_eq_true (by kernel_rfl)) k0 bel lt0) (trodAll_cons_mk (Below.trod laidOut (by kernel_rfl) (of_decide_eq_true (by kernel_rfl)) k1 bel lt1) (trodAll_cons_mk (Below.trod laidOut (by kernel_rfl) (of_decide_eq_true (by kernel_rfl)) k2 bel lt2) (trodAll_cons_mk (Below.trod laidOut (by kernel_rfl) (of_decide_eq_true (by kernel_rfl)) k3 bel lt3) (trodAll_cons_mk (Below.trod laidOut (by kernel_rfl) (of_decide_eq_true (by kernel_rfl)) k4 bel lt4) trodAll_mk0))))), rfl, bel.frame _, fun h => by cases h⟩
set_option maxRecDepth 100000 in
theorem lifted (os : Os) (started : os.Started) (H : Type) (enc : TypeId × Value → H) :
    ReturnsInTold none {} Tryf.checked os 5 .any Input.okWide ((OpenSpec.ofChange Rows.fnConsistencySameSpec).preRow enc Tryf.prog Tryf.f5 Rows.fnConsistencySameRow.domain false Rows.fnConsistencySameRow.laid) (fun F => ((OpenSpec.ofChange Rows.fnConsistencySameSpec).at F).post enc Tryf.prog Tryf.f5 false true false false) (aloneAtReturn Tryf.prog) nothingAlways := by
  obtain ⟨places, hx⟩ := reads os enc
  refine returnsInTold_of_row (C := Tryf.checked) (s := OpenSpec.ofChange Rows.fnConsistencySameSpec) mayEnter own started (by kernel_rfl) Tryf.func5
    (OpenSpec.witness_stopped_at (enc := enc) (C := Tryf.checked) false (laidWorldH os) #[.agg #[.int .u32 0, .int .u32 0, .int .u32 0], .int .u64 0, .slice none 0 0, .slice none 0 0, .slice none 0 0] rfl (by kernel_rfl) (by kernel_rfl) (by kernel_rfl)
      (OpenSpec.preRow_of_cond 8 hx (by kernel_rfl) (fun k hk => by cases hk) (by kernel_rfl) (laid_metH os #[.agg #[.int .u32 0, .int .u32 0, .int .u32 0], .int .u64 0, .slice none 0 0, .slice none 0 0, .slice none 0 0]))) ?_
  intro F W base args ds gs before _ hF hval hW _ _ _ hL _
  exact contract F H enc W base args ds gs before hF hval hW hL
theorem proved : Rows.FnConsistencySameToldSaid :=
  Claim7.holds_of_told_tied_any_at .later 5 Tryf.f5 "fmt.errorf" [] [] _ _ _ _ _ (by kernel_rfl) rfl rfl rfl laidOut (by kernel_rfl) rfl ⟨rfl, rfl, rfl, rfl, rfl, rfl, rfl⟩ rfl rfl (by kernel_rfl) (by kernel_rfl) Tryf.func5 (by kernel_rfl)
    (of_decide_eq_true (by kernel_rfl)) (by unfold Func.isWrapper; first | (rw [if_pos (by decide +kernel)]; kernel_rfl) | (rw [if_neg (by decide +kernel)]; exact ⟨rfl, rfl⟩)) stopsAre.symm rfl stopKnobs.symm (by kernel_rfl)
    (by kernel_rfl) (by kernel_rfl) (by kernel_rfl) (by kernel_rfl) (by kernel_rfl) (by kernel_rfl) (by kernel_rfl) (by kernel_rfl) (by kernel_rfl) rfl (by kernel_rfl) rfl rfl
    rfl rfl
    rfl mainIs (by kernel_rfl) (by kernel_rfl) (by decide) (by kernel_rfl) fnConsistencySame_row_tie
    (OpenClaim.moreEntering_of mayEnter (by kernel_rfl) (by kernel_rfl) (by kernel_rfl) (by kernel_rfl) (by kernel_rfl) (by kernel_rfl) (by kernel_rfl) liftsFinal.symm make)
    ⟨_, WideRow.started_initial, quiet _⟩
    (fun os started _ H enc _ => lifted os started H enc)
end Go.Proofs.YteilafhajhbdaaaFmt.fnConsistencySame
