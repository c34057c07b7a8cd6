/- The proof of each beginning of the leaves of a tree is right. -/
import Derived.Test.YteilafhajhbdaaaFmtVerC
import Derived.Test.YteilafhajhbdaaaFmtPathW
import Derived.Test.YteilafhajhbdaaaFmtFits
import Derived.Test.YteilafhajhbdaaaFmtOpenH
namespace Go.Proofs.YteilafhajhbdaaaFmt.fnConsistencyComplete
open Go.ChangeShapes Go.WideShapes Go.ChangeAt Go.RowKit
set_option maxRecDepth 100000
theorem keep1 {w W w' : World} (h : Below w.heap.size w W) (hb : Below W.heap.size W w') : Below w.heap.size w w' := h.trans (hb.mono h.size)
theorem proof_c (h : Pl.HF) (ok : h.ok) (v : Value) (L : List (List Nat)) (m : Nat) (w : World) (h1 : 1 ≤ L.length) (h2 : L.length ≤ 2147483647) (hm1 : 1 ≤ m) (hm : m ≤ L.length) (hv : HashesR w v L) : Calls Tryf.prog 11 #[hashV h, .int .i64 (m : Int), v] w (RetBuilt w (Pl.proofL h m L true)) := by
  have HS := Lib.hid (fun (W : World) (hb : Below w.heap.size w W) => sub_c h ok L.length v L m true W rfl h1 h2 hm1 hm (hv.below hb))
  obtain ⟨A, cap, rfl, _⟩ := id hv
  generalize Pl.proofL h m L true = P at *
  obtain ⟨Ah, Bh, Ch⟩ := h
  unfold hashV at HS ⊢
  simp only [] at HS ⊢
  clear hv h1 h2 hm1 hm ok
  go_enter Tryf.func11, Tryf.ntmps11
  go_wp2_with fail
  have hb0 := (Below.refl w.heap.size w).alloc (Nat.le_refl _) (.cells #[.int .u32 (Ah : Int), .int .u32 (Bh : Int), .int .u32 (Ch : Int)] 24)
  refine (HS.out _ hb0).mono ?_
  rintro e w1 ⟨u1, rfl, hu1, hb1⟩
  obtain ⟨Au, cu, rfl, _⟩ := hu1.form
  go_wp2_with fail
  go_ret
  exact ⟨_, rfl, hu1.mono (by simp), hb0.trans (hb1.mono (by simp))⟩
theorem mr_len2 (h : Pl.HF) (f : Nat → List Nat) (a n : Nat) (h1 : 1 ≤ n) (hf : ∀ i, a ≤ i → i < a + n → (f i).length = 2) : (Pl.mr h f a n).length = 2 := by
  by_cases hn : 2 ≤ n
  · rw [Pl.mr_two _ _ _ _ hn]; rfl
  · obtain rfl : n = 1 := by omega
    rw [Pl.mr_one]; exact hf a (Nat.le_refl _) (by omega)
theorem proof_fits (h : Pl.HF) (D : List (List Nat)) (m : Nat) (wh : Bool) (h1 : 1 ≤ m) (hm : m ≤ D.length) (hD : D.length ≤ 200) (h2 : ∀ x ∈ D, x.length = 2) : Fits (Pl.proofL h m D wh) := by
  refine ⟨by have := proof_len h m D wh (by omega); omega, fun x hx => ?_⟩
  unfold Pl.proofL Pl.hl at hx
  obtain ⟨p, hp, rfl⟩ := List.mem_map.1 hx
  obtain ⟨_, i2, i3⟩ := Pl.cproof_in m D.length 0 wh hm h1 p hp
  rw [mr_len2 h (Pl.atL D) _ _ i3 (fun i _ hi => ?_)]
  · decide
  · unfold Pl.atL
    rw [List.getD_eq_getElem?_getD, List.getElem?_eq_getElem (by omega)]
    exact h2 _ (List.getElem_mem _)
theorem kV_proof (h : Pl.HF) (D : List (List Nat)) (m : Nat) (h1 : 1 ≤ m) (hm : m ≤ D.length) : kV h (Pl.mth h (D.take m)) (Pl.mth h D) m D.length (Pl.proofL h m D true) = 0 := by
  rw [kV_zero, Pl.told_proof h D.length m D _ true rfl h1 hm (fun _ => rfl)]
  exact ⟨rfl, rfl, rfl⟩
theorem head_slice {w : World} {g o n cv : Nat} {P : List (List Nat)} (hv : HashesR w (.slice (some ⟨g, o, none⟩) n cv) P) (k : Nat) (hk : k ≤ P.length) (h1 : 1 ≤ P.length) :
    HashesR w (.slice (some ⟨g, o, none⟩) k cv) (P.take k) ∧ ∀ W, (Instr.slice 25 (.slice (some ⟨g, o, none⟩) n cv) none (some (.int .i64 (k : Int))) none).run Tryf.prog W = .ok (.slice (some ⟨g, o, none⟩) k cv) W := by
  have hc : P.length ≤ cv := by
    obtain ⟨_, _, e, hc, _⟩ := id hv
    injection e with e1 e2 e3
    rw [e3]; exact hc
  constructor
  · have := hv.head (k := k) hk
    rwa [if_neg (by omega), show (some (⟨g, o, none⟩ : Addr)).map (·.add 0) = some ⟨g, o, none⟩ by simp [add_plain3]] at this
  · intro W
    have := hashes_head (some ⟨g, o, none⟩) n cv k (by omega) W
    rwa [if_neg (by omega), show (some (⟨g, o, none⟩ : Addr)).map (·.add 0) = some ⟨g, o, none⟩ by simp [add_plain3]] at this
abbrev S1 (w : World) (x1 x2 x3 : Value) (w' : World) : Prop := w'.cell? ⟨w.heap.size, 0, none⟩ = some x1 ∧ w'.cell? ⟨w.heap.size, 1, none⟩ = some x2 ∧ w'.cell? ⟨w.heap.size, 2, none⟩ = some x3 ∧ Below w.heap.size w w'
theorem keepS1 {w W w' : World} {x1 x2 x3 : Value} (hb : Below W.heap.size W w') (h : S1 w x1 x2 x3 W) : S1 w x1 x2 x3 w' :=
  have up : ∀ {p : Addr} {v : Value}, W.cell? p = some v → w'.cell? p = some v := fun {p} {_} h => (hb.cell (World.block_lt_of_cell? W p h)).trans h
  ⟨up h.1, up h.2.1, up h.2.2.1, h.2.2.2.trans (hb.mono h.2.2.2.size)⟩
set_option maxHeartbeats 4000000 in
theorem main (F : Stop.Interp) (h : Pl.HF) (ok : h.ok) (idx : Int) (Av : Option Addr) (cv : Nat) (P : List (List Nat)) (w : World) (hF : F.answers w.tape) (hH : Handle w) (hTb : Tab w) (hv : HashesR w (.slice Av P.length cv) P) (_gfP : Fits P) (HFP : Hid (∀ W, Below w.heap.size w W → Calls Tryf.prog 8 #[.slice Av P.length cv] W fun e w' => e = .returned (.bool true) ∧ W = w')) (geP : IsLeaves P) (HEP : Hid (∀ W, Below w.heap.size w W → Calls Tryf.prog 9 #[.slice Av P.length cv] W fun e w' => e = .returned (.bool true) ∧ W = w')) (_q1 : 1 ≤ idx) (_q2 : idx ≤ (P.length : Int)) :
    Calls Tryf.prog 3 #[hashV h, .int .i64 (idx : Int), .slice Av P.length cv] w fun e w' => e = .returned (.bool true) ∧ Below w.heap.size w w' := by
  obtain ⟨m, rfl⟩ := Int.eq_ofNat_of_zero_le (show (0 : Int) ≤ idx by omega)
  have hm1 : 1 ≤ m := by omega
  have hm : m ≤ P.length := by omega
  obtain ⟨l1, l2, l3⟩ := geP
  have HB := Lib.hid (fun C => (Below.refl w.heap.size w).alloc (Nat.le_refl _) (.cells C 24))
  have HPr := Lib.hid (fun (W : World) (hb : Below w.heap.size w W) => proves_c W (hH.below hb))
  obtain ⟨A', cap', e', hcap, hby, hat⟩ := id hv
  injection e' with e1 e2 e3
  subst e1 e3
  obtain ⟨g, o, rfl, hat2⟩ := hat (by omega)
  clear hat hat2 e2 hcap hby
  obtain ⟨hh, r1⟩ := head_slice hv m hm (by omega)
  have HP := Lib.hid (fun (W : World) (hb : Below w.heap.size w W) => proof_c h ok _ P m W (by omega) (by omega) hm1 hm (hv.below hb))
  have HM1 := Lib.hid (fun (W : World) (hb : Below w.heap.size w W) => mth_c h ok _ (P.take m) W (by simp; omega) (by simp; omega) (hh.below hb))
  have HM2 := Lib.hid (fun (W : World) (hb : Below w.heap.size w W) => mth_c h ok _ P W (by omega) (by omega) (hv.below hb))
  have HV : Hid (∀ (W : World) (u a b : Value), Below w.heap.size w W → HashesR W u (Pl.proofL h m P true) → BytesR W a (Pl.mth h (P.take m)) → BytesR W b (Pl.mth h P) → Calls Tryf.prog 10 #[hashV h, .int .u64 (m : Int), .int .u64 ((P.length : Nat) : Int), u, a, b] W fun e w' => e = .returned (.int .i64 0) ∧ Below W.heap.size W w') := Lib.hid (fun W u a b hb hu ha hb2 => by
    have := verC_any F h ok m P.length u a b _ _ _ W (ans_below hF hb) (hTb.below hb) ha hu hb2 (proof_fits h P m true hm1 hm l3 l1) (hH.below hb) hm1 hm (by omega)
    rw [kV_proof h P m hm1 hm] at this
    exact this)
  have e1 : IntKind.u64.wrap (m : Int) = (m : Int) := wrapN m (by omega)
  have e2 : IntKind.u64.wrap ((P.length : Nat) : Int) = ((P.length : Nat) : Int) := wrapN _ (by omega)
  have g1 : ¬ (m : Int) < 1 := by omega
  have g1' : decide (m < 1) = false := decide_eq_false (by omega)
  have g2 : ¬ ((P.length : Nat) : Int) < (m : Int) := by omega
  have g2' : decide (P.length < m) = false := decide_eq_false (by omega)
  generalize Pl.proofL h m P true = pr at *
  generalize Pl.mth h (P.take m) = ra at *
  generalize Pl.mth h P = rb at *
  clear hF hH hTb hv hh _gfP l1 l2 l3 _q1 _q2 hm1 hm ok
  generalize P.length = n at *
  obtain ⟨Ah, Bh, Ch⟩ := h
  unfold hashV at HP HM1 HM2 HV ⊢
  simp only [] at HP HM1 HM2 HV ⊢
  go_enter Tryf.func3, Tryf.ntmps3
  go_wp2_with fail
  refine (HFP.out _ (HB.out _)).mono ?_; rintro e w' ⟨rfl, rfl⟩
  go_wp2_with fail
  refine (HEP.out _ (HB.out _)).mono ?_; rintro e w' ⟨rfl, rfl⟩
  go_wp2_with fail
  have S0 : S1 w (.int .u32 (Ah : Int)) (.int .u32 (Bh : Int)) (.int .u32 (Ch : Int)) (w.alloc (.cells #[.int .u32 (Ah : Int), .int .u32 (Bh : Int), .int .u32 (Ch : Int)] 24)).drew := ⟨by simp, by simp, by simp, (HB.out _).drew⟩
  go_region_held3 (fun w' => w'.cell? ⟨w.heap.size, 0, none⟩ = some (.int .u32 (Ah : Int)) ∧ w'.cell? ⟨w.heap.size, 1, none⟩ = some (.int .u32 (Bh : Int)) ∧ w'.cell? ⟨w.heap.size, 2, none⟩ = some (.int .u32 (Ch : Int)) ∧ Below w.heap.size w w')
    (first | assumption | exact S0 | exact keepS1 hbp (by assumption) | exact keepS1 hbm (by assumption) | exact keepS1 hbn (by assumption) | exact keepS1 hbv (by assumption))
    (first
      | (go_at_call 11; refine (HP.out _ (show S1 w (.int .u32 (Ah : Int)) (.int .u32 (Bh : Int)) (.int .u32 (Ch : Int)) _ by assumption).2.2.2).mono ?_; rintro e w' ⟨up, rfl, hup0, hbp⟩; have hup := hup0.hashes)
      | (go_at_call_of 12 (Value.slice (some ⟨g, o, none⟩) m cv); refine (HM1.out _ (show S1 w (.int .u32 (Ah : Int)) (.int .u32 (Bh : Int)) (.int .u32 (Ch : Int)) _ by assumption).2.2.2).mono ?_; rintro e w' ⟨um, rfl, hum, hbm⟩)
      | (go_at_call_of 12 (Value.slice (some ⟨g, o, none⟩) n cv); refine (HM2.out _ (show S1 w (.int .u32 (Ah : Int)) (.int .u32 (Bh : Int)) (.int .u32 (Ch : Int)) _ by assumption).2.2.2).mono ?_; rintro e w' ⟨un, rfl, hun, hbn⟩)
      | (go_at_call 10; refine (HV.out _ _ _ _ (show S1 w (.int .u32 (Ah : Int)) (.int .u32 (Bh : Int)) (.int .u32 (Ch : Int)) _ by assumption).2.2.2
          (by first | exact hup | exact hup.below hbm | exact hup.below hbn | exact (hup.below hbm).below hbn | exact (hup.below hbn).below hbm)
          (by first | exact hum | exact hum.below hbp | exact hum.below hbn | exact (hum.below hbp).below hbn | exact (hum.below hbn).below hbp)
          (by first | exact hun | exact hun.below hbp | exact hun.below hbm | exact (hun.below hbp).below hbm | exact (hun.below hbm).below hbp)).mono ?_; rintro e w' ⟨rfl, hbv⟩)
      | (go_at_call 13; refine (HPr.out _ (show S1 w (.int .u32 (Ah : Int)) (.int .u32 (Bh : Int)) (.int .u32 (Ch : Int)) _ by assumption).2.2.2).mono ?_; rintro e w' ⟨rfl, hbv⟩))
  all_goals
    have hfin := (show S1 w (.int .u32 (Ah : Int)) (.int .u32 (Bh : Int)) (.int .u32 (Ch : Int)) w' by assumption).2.2.2
    go_wp2
    go_ret
    exact ⟨by first | rfl | (simp <;> omega), hfin⟩
set_option maxHeartbeats 2000000 in
theorem walk (F : Stop.Interp) (w : World) (hF : F.answers w.tape) (h : Pl.HF) (ok : h.ok) (a1 : Int) (w1 : -9223372036854775808 ≤ a1 ∧ a1 ≤ 9223372036854775807) (v : Value) (P : List (List Nat)) (hv : HashesR w v P) (hT : LaidIsH w) :
    Calls Tryf.prog 3 #[hashV h, .int .i64 a1, v] w fun e w' => e = .returned (.bool true) ∧ Below w.heap.size w w' := by
  have HB := Lib.hid (fun C => (Below.refl w.heap.size w).alloc (Nat.le_refl _) (.cells C 24))
  obtain ⟨Av, cv, ev, h9v⟩ := id hv
  clear h9v
  subst ev
  by_cases g0 : ¬ Fits P
  case pos =>
    have HFx : Hid (∀ W, Below w.heap.size w W → Calls Tryf.prog 8 #[.slice Av P.length cv] W fun e w' => e = .returned (.bool false) ∧ W = w') := Lib.hid (fun W hb => (fits1_c (.slice Av P.length cv) P W (hv.below hb)).mono fun _ _ r => r.no g0)
    obtain ⟨Ah, Bh, Ch⟩ := h
    unfold hashV
    clear hT hF w1 hv g0 ok
    go_enter Tryf.func3, Tryf.ntmps3
    go_wp2_with fail
    refine (HFx.out _ (HB.out _)).mono ?_; rintro e w' ⟨rfl, rfl⟩
    go_wp2_with fail
    go_ret
    exact ⟨rfl, HB.out _⟩
  have gfP : Fits P := Classical.not_not.1 g0
  clear g0
  have HFP : Hid (∀ W, Below w.heap.size w W → Calls Tryf.prog 8 #[.slice Av P.length cv] W fun e w' => e = .returned (.bool true) ∧ W = w') := Lib.hid (fun W hb => (fits1_c (.slice Av P.length cv) P W (hv.below hb)).mono fun _ _ r => r.yes gfP)
  by_cases g1 : ¬ IsLeaves P
  case pos =>
    have HSx : Hid (∀ W, Below w.heap.size w W → Calls Tryf.prog 9 #[.slice Av P.length cv] W fun e w' => e = .returned (.bool false) ∧ W = w') := Lib.hid (fun W hb => (leaves_c (.slice Av P.length cv) P W (hv.below hb) gfP.1).mono fun _ _ r => r.no g1)
    obtain ⟨Ah, Bh, Ch⟩ := h
    unfold hashV
    clear hT hF w1 hv gfP g1 ok
    go_enter Tryf.func3, Tryf.ntmps3
    go_wp2_with fail
    refine (HFP.out _ (HB.out _)).mono ?_; rintro e w' ⟨rfl, rfl⟩
    go_wp2_with fail
    refine (HSx.out _ (HB.out _)).mono ?_; rintro e w' ⟨rfl, rfl⟩
    go_wp2_with fail
    go_ret
    exact ⟨rfl, HB.out _⟩
  have geP : IsLeaves P := Classical.not_not.1 g1
  clear g1
  have HEP : Hid (∀ W, Below w.heap.size w W → Calls Tryf.prog 9 #[.slice Av P.length cv] W fun e w' => e = .returned (.bool true) ∧ W = w') := Lib.hid (fun W hb => (leaves_c (.slice Av P.length cv) P W (hv.below hb) gfP.1).mono fun _ _ r => r.yes geP)
  by_cases g2 : a1 < 1
  case pos =>
    obtain ⟨Ah, Bh, Ch⟩ := h
    unfold hashV
    clear hT hF w1 hv geP gfP ok
    go_enter Tryf.func3, Tryf.ntmps3
    go_wp2_with fail
    refine (HFP.out _ (HB.out _)).mono ?_; rintro e w' ⟨rfl, rfl⟩
    go_wp2_with fail
    refine (HEP.out _ (HB.out _)).mono ?_; rintro e w' ⟨rfl, rfl⟩
    go_wp2_with fail
    go_ret
    exact ⟨rfl, HB.out _⟩
  by_cases g3 : (P.length : Int) < a1
  case pos =>
    obtain ⟨Ah, Bh, Ch⟩ := h
    unfold hashV
    clear hT hF w1 hv geP gfP ok
    go_enter Tryf.func3, Tryf.ntmps3
    go_wp2_with fail
    refine (HFP.out _ (HB.out _)).mono ?_; rintro e w' ⟨rfl, rfl⟩
    go_wp2_with fail
    refine (HEP.out _ (HB.out _)).mono ?_; rintro e w' ⟨rfl, rfl⟩
    go_wp2_with fail
    go_ret
    exact ⟨rfl, HB.out _⟩
  exact main F h ok a1 Av cv P w hF hT.handle hT.1 hv gfP HFP geP HEP (by omega) (by omega)
theorem reads (os : Os) {H : Type} (enc : TypeId × Value → H) : ∃ places, DataW.whole enc Tryf.prog ((laidWorldH os).forCall (fun _ _ => 0) ⟨#[], #[.agg #[.int .u32 0, .int .u32 0, .int .u32 0], .int .i64 0, .slice none 0 0], []⟩).memory Tryf.f3.params.toList Rows.fnConsistencyCompleteSpec.vars false (#[.agg #[.int .u32 0, .int .u32 0, .int .u32 0], .int .i64 0, .slice none 0 0] : Array Value).toList 8 = some ([.agg [.lit (.int .u32 0), .lit (.int .u32 0), .lit (.int .u32 0)], .lit (.int .i64 0), .nil], [], places) :=
  ⟨[], by kernel_rfl⟩
set_option maxRecDepth 100000 in
theorem contract (F : Stop.Interp) (H : Type) (enc : TypeId × Value → H) (W : World) (base : Nat) (args : Array Value) (ds gs : List (DataW H)) (before : List MemPlace) (hF : F.told.answers W.tape)
    (hval0 : ∀ (j : Nat) t v, Tryf.f3.params[j]? = some t → args[j]? = some v → Value.okWide Tryf.prog W .any base t v)
    (hW : DataW.Whole enc Tryf.prog Tryf.f3.params.toList Rows.fnConsistencyCompleteSpec.vars false W args.toList ds gs before) (hL : laidMetH Tryf.prog Rows.fnConsistencyCompleteRow.laid W) :
    Calls Tryf.prog 3 args W fun e W' => ∃ v, e = .returned v ∧ ((OpenSpec.ofChange Rows.fnConsistencyCompleteSpec).at F.told).post enc Tryf.prog Tryf.f3 false true false false W args v W' := by
  have hval : ∀ (j : Nat) t v, Tryf.f3.params[j]? = some t → args[j]? = some v → Value.okWide Tryf.prog W .any base t v := hval0
  have hW' := hW
  obtain ⟨p, q, hA0, hV, rfl, hfz, hnd⟩ := hW
  have hA : DataW.TrodAll enc Tryf.prog W 0 (fun _ => true) true Tryf.f3.params.toList args.toList ds p := hA0
  rw [Tryf.params3] at hA hval
  obtain ⟨v0, vs0, d0, ds0, p0, q0, hargs, rfl, rfl, h0, r0⟩ := trodAll_cons hA
  obtain ⟨v1, vs1, d1, ds1, p1, q1, rfl, rfl, rfl, h1, r1⟩ := trodAll_cons r0
  obtain ⟨v2, vs2, d2, ds2, p2, q2, rfl, rfl, rfl, h2, r2⟩ := trodAll_cons r1
  obtain ⟨rfl, rfl, rfl⟩ := trodAll_nil r2
  obtain rfl : args = #[v0, v1, v2] := by cases args; simp_all
  obtain ⟨rfl, rfl⟩ := trodVars_none hV
  have k0 := h0
  have lt0 : ∀ x ∈ p0, x.block < W.heap.size := by obtain ⟨m, hm⟩ := k0; exact DataW.trod_lt m _ _ _ hm
  obtain ⟨hh0, rfl, w0⟩ := openHash (hval 0 24 v0 rfl rfl) h0
  have k1 := h1
  have lt1 : ∀ x ∈ p1, x.block < W.heap.size := by obtain ⟨m, hm⟩ := k1; exact DataW.trod_lt m _ _ _ hm
  obtain ⟨a1, rfl, hd1, hp1, w1⟩ := open_int Tryf.underlying3 (hval 1 3 v1 rfl rfl) h1
  have k2 := h2
  have lt2 : ∀ x ∈ p2, x.block < W.heap.size := by obtain ⟨m, hm⟩ := k2; exact DataW.trod_lt m _ _ _ hm
  obtain ⟨L2, w2⟩ := openHashes (hval 2 25 v2 rfl rfl) h2
  refine (walk F.told W hF hh0 w0 a1 (bound_i64 w1) v2 L2 w2 (laidIsH_of hL)).mono fun e W' ⟨he, bel⟩ => ?_
  subst he
  exact ⟨_, rfl, _, _, _, [], _, [], hW', trodAll_mk1 (shut_bool Tryf.underlying4 _), (trodAll_cons_mk (Below.trod laidOut (by kernel_rfl) (of_decide_eq_true (by kernel_rfl)) k0 bel lt0) (trodAll_cons_mk (Below.trod laidOut (by kernel_rfl) (of_decide_eq_true (by kernel_rfl)) k1 bel lt1) (trodAll_cons_mk (Below.trod laidOut (by kernel_rfl) (of_decide_eq_true (by kernel_rfl)) k2 bel lt2) trodAll_mk0))), rfl, bel.frame _, fun h => by cases h⟩
set_option maxRecDepth 100000 in
theorem lifted (os : Os) (started : os.Started) (H : Type) (enc : TypeId × Value → H) :
    ReturnsInTold none {} Tryf.checked os 3 .any Input.okWide ((OpenSpec.ofChange Rows.fnConsistencyCompleteSpec).preRow enc Tryf.prog Tryf.f3 Rows.fnConsistencyCompleteRow.domain false Rows.fnConsistencyCompleteRow.laid) (fun F => ((OpenSpec.ofChange Rows.fnConsistencyCompleteSpec).at F).post enc Tryf.prog Tryf.f3 false true false false) (aloneAtReturn Tryf.prog) nothingAlways := by
  obtain ⟨places, hx⟩ := reads os enc
  refine returnsInTold_of_row (C := Tryf.checked) (s := OpenSpec.ofChange Rows.fnConsistencyCompleteSpec) mayEnter own started (by kernel_rfl) Tryf.func3
    (OpenSpec.witness_stopped_at (enc := enc) (C := Tryf.checked) false (laidWorldH os) #[.agg #[.int .u32 0, .int .u32 0, .int .u32 0], .int .i64 0, .slice none 0 0] rfl (by kernel_rfl) (by kernel_rfl) (by kernel_rfl)
      (OpenSpec.preRow_of_cond 8 hx (by kernel_rfl) (fun k hk => by cases hk) (by kernel_rfl) (laid_metH os #[.agg #[.int .u32 0, .int .u32 0, .int .u32 0], .int .i64 0, .slice none 0 0]))) ?_
  intro F W base args ds gs before _ hF hval hW _ _ _ hL _
  exact contract F H enc W base args ds gs before hF hval hW hL
theorem proved : Rows.FnConsistencyCompleteToldSaid :=
  Claim7.holds_of_told_tied_any_at .later 3 Tryf.f3 "fmt.errorf" [] [] _ _ _ _ _ (by kernel_rfl) rfl rfl rfl laidOut (by kernel_rfl) rfl ⟨rfl, rfl, rfl, rfl, rfl, rfl, rfl⟩ rfl rfl (by kernel_rfl) (by kernel_rfl) Tryf.func3 (by kernel_rfl)
    (of_decide_eq_true (by kernel_rfl)) (by unfold Func.isWrapper; first | (rw [if_pos (by decide +kernel)]; kernel_rfl) | (rw [if_neg (by decide +kernel)]; exact ⟨rfl, rfl⟩)) stopsAre.symm rfl stopKnobs.symm (by kernel_rfl)
    (by kernel_rfl) (by kernel_rfl) (by kernel_rfl) (by kernel_rfl) (by kernel_rfl) (by kernel_rfl) (by kernel_rfl) (by kernel_rfl) (by kernel_rfl) rfl (by kernel_rfl) rfl rfl
    rfl rfl
    rfl mainIs (by kernel_rfl) (by kernel_rfl) (by decide) (by kernel_rfl) fnConsistencyComplete_row_tie
    (OpenClaim.moreEntering_of mayEnter (by kernel_rfl) (by kernel_rfl) (by kernel_rfl) (by kernel_rfl) (by kernel_rfl) (by kernel_rfl) (by kernel_rfl) liftsFinal.symm make)
    ⟨_, WideRow.started_initial, quiet _⟩
    (fun os started _ H enc _ => lifted os started H enc)
end Go.Proofs.YteilafhajhbdaaaFmt.fnConsistencyComplete
