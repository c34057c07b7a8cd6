/- A proof between two sizes, and the one from the second size on, lead from the first root to the last one. -/
import Derived.Test.YteilafhajhbdaaaFmtVerC
import Derived.Test.YteilafhajhbdaaaFmtPathW
import Derived.Test.YteilafhajhbdaaaFmtFits
import Derived.Test.YteilafhajhbdaaaFmtOpenH
namespace Go.Proofs.YteilafhajhbdaaaFmt.fnConsistencyPrefix
open Go.ChangeShapes Go.WideShapes Go.ChangeAt Go.RowKit
set_option maxRecDepth 100000
theorem keep1 {w W w' : World} (h : Below w.heap.size w W) (hb : Below W.heap.size W w') : Below w.heap.size w w' := h.trans (hb.mono h.size)
theorem proof_c (h : Pl.HF) (ok : h.ok) (v : Value) (L : List (List Nat)) (m : Nat) (w : World) (h1 : 1 ≤ L.length) (h2 : L.length ≤ 2147483647) (hm1 : 1 ≤ m) (hm : m ≤ L.length) (hv : HashesR w v L) : Calls Tryf.prog 11 #[hashV h, .int .i64 (m : Int), v] w (RetBuilt w (Pl.proofL h m L true)) := by
  have HS := Lib.hid (fun (W : World) (hb : Below w.heap.size w W) => sub_c h ok L.length v L m true W rfl h1 h2 hm1 hm (hv.below hb))
  obtain ⟨A, cap, rfl, _⟩ := id hv
  generalize Pl.proofL h m L true = P at *
  obtain ⟨Ah, Bh, Ch⟩ := h
  unfold hashV at HS ⊢
  simp only [] at HS ⊢
  clear hv h1 h2 hm1 hm ok
  go_enter Tryf.func11, Tryf.ntmps11
  go_wp2_with fail
  have hb0 := (Below.refl w.heap.size w).alloc (Nat.le_refl _) (.cells #[.int .u32 (Ah : Int), .int .u32 (Bh : Int), .int .u32 (Ch : Int)] 24)
  refine (HS.out _ hb0).mono ?_
  rintro e w1 ⟨u1, rfl, hu1, hb1⟩
  obtain ⟨Au, cu, rfl, _⟩ := hu1.form
  go_wp2_with fail
  go_ret
  exact ⟨_, rfl, hu1.mono (by simp), hb0.trans (hb1.mono (by simp))⟩
theorem mr_len2 (h : Pl.HF) (f : Nat → List Nat) (a n : Nat) (h1 : 1 ≤ n) (hf : ∀ i, a ≤ i → i < a + n → (f i).length = 2) : (Pl.mr h f a n).length = 2 := by
  by_cases hn : 2 ≤ n
  · rw [Pl.mr_two _ _ _ _ hn]; rfl
  · obtain rfl : n = 1 := by omega
    rw [Pl.mr_one]; exact hf a (Nat.le_refl _) (by omega)
theorem proof_fits (h : Pl.HF) (D : List (List Nat)) (m : Nat) (wh : Bool) (h1 : 1 ≤ m) (hm : m ≤ D.length) (hD : D.length ≤ 200) (h2 : ∀ x ∈ D, x.length = 2) : Fits (Pl.proofL h m D wh) := by
  refine ⟨by have := proof_len h m D wh (by omega); omega, fun x hx => ?_⟩
  unfold Pl.proofL Pl.hl at hx
  obtain ⟨p, hp, rfl⟩ := List.mem_map.1 hx
  obtain ⟨_, i2, i3⟩ := Pl.cproof_in m D.length 0 wh hm h1 p hp
  rw [mr_len2 h (Pl.atL D) _ _ i3 (fun i _ hi => ?_)]
  · decide
  · unfold Pl.atL
    rw [List.getD_eq_getElem?_getD, List.getElem?_eq_getElem (by omega)]
    exact h2 _ (List.getElem_mem _)
theorem kV_proof (h : Pl.HF) (D : List (List Nat)) (m : Nat) (h1 : 1 ≤ m) (hm : m ≤ D.length) : kV h (Pl.mth h (D.take m)) (Pl.mth h D) m D.length (Pl.proofL h m D true) = 0 := by
  rw [kV_zero, Pl.told_proof h D.length m D _ true rfl h1 hm (fun _ => rfl)]
  exact ⟨rfl, rfl, rfl⟩
theorem head_slice {w : World} {g o n cv : Nat} {P : List (List Nat)} (hv : HashesR w (.slice (some ⟨g, o, none⟩) n cv) P) (k : Nat) (hk : k ≤ P.length) (h1 : 1 ≤ P.length) :
    HashesR w (.slice (some ⟨g, o, none⟩) k cv) (P.take k) ∧ ∀ W, (Instr.slice 25 (.slice (some ⟨g, o, none⟩) n cv) none (some (.int .i64 (k : Int))) none).run Tryf.prog W = .ok (.slice (some ⟨g, o, none⟩) k cv) W := by
  have hc : P.length ≤ cv := by
    obtain ⟨_, _, e, hc, _⟩ := id hv
    injection e with e1 e2 e3
    rw [e3]; exact hc
  constructor
  · have := hv.head (k := k) hk
    rwa [if_neg (by omega), show (some (⟨g, o, none⟩ : Addr)).map (·.add 0) = some ⟨g, o, none⟩ by simp [add_plain3]] at this
  · intro W
    have := hashes_head (some ⟨g, o, none⟩) n cv k (by omega) W
    rwa [if_neg (by omega), show (some (⟨g, o, none⟩ : Addr)).map (·.add 0) = some ⟨g, o, none⟩ by simp [add_plain3]] at this
abbrev S1 (w : World) (x1 x2 x3 : Value) (w' : World) : Prop := w'.cell? ⟨w.heap.size, 0, none⟩ = some x1 ∧ w'.cell? ⟨w.heap.size, 1, none⟩ = some x2 ∧ w'.cell? ⟨w.heap.size, 2, none⟩ = some x3 ∧ Below w.heap.size w w'
theorem keepS1 {w W w' : World} {x1 x2 x3 : Value} (hb : Below W.heap.size W w') (h : S1 w x1 x2 x3 W) : S1 w x1 x2 x3 w' :=
  have up : ∀ {p : Addr} {v : Value}, W.cell? p = some v → w'.cell? p = some v := fun {p} {_} h => (hb.cell (World.block_lt_of_cell? W p h)).trans h
  ⟨up h.1, up h.2.1, up h.2.2.1, h.2.2.2.trans (hb.mono h.2.2.2.size)⟩
abbrev S1a (w : World) (x1 x2 x3 a : Value) (la : List Nat) (w' : World) : Prop := w'.cell? ⟨w.heap.size, 0, none⟩ = some x1 ∧ w'.cell? ⟨w.heap.size, 1, none⟩ = some x2 ∧ w'.cell? ⟨w.heap.size, 2, none⟩ = some x3 ∧ BytesR w' a la ∧ Below w.heap.size w w'
theorem keepS1a {w W w' : World} {x1 x2 x3 a : Value} {la : List Nat} (hb : Below W.heap.size W w') (h : S1a w x1 x2 x3 a la W) : S1a w x1 x2 x3 a la w' :=
  have up : ∀ {p : Addr} {v : Value}, W.cell? p = some v → w'.cell? p = some v := fun {p} {_} h => (hb.cell (World.block_lt_of_cell? W p h)).trans h
  ⟨up h.1, up h.2.1, up h.2.2.1, h.2.2.2.1.below hb, h.2.2.2.2.trans (hb.mono h.2.2.2.2.size)⟩
abbrev S3 (w : World) (x1 x2 x3 a b c : Value) (la lb lc : List Nat) (w' : World) : Prop := w'.cell? ⟨w.heap.size, 0, none⟩ = some x1 ∧ w'.cell? ⟨w.heap.size, 1, none⟩ = some x2 ∧ w'.cell? ⟨w.heap.size, 2, none⟩ = some x3 ∧ BytesR w' a la ∧ BytesR w' b lb ∧ BytesR w' c lc ∧ Below w.heap.size w w'
theorem keepS3 {w W w' : World} {x1 x2 x3 a b c : Value} {la lb lc : List Nat} (hb : Below W.heap.size W w') (h : S3 w x1 x2 x3 a b c la lb lc W) : S3 w x1 x2 x3 a b c la lb lc w' :=
  have up : ∀ {p : Addr} {v : Value}, W.cell? p = some v → w'.cell? p = some v := fun {p} {_} h => (hb.cell (World.block_lt_of_cell? W p h)).trans h
  ⟨up h.1, up h.2.1, up h.2.2.1, h.2.2.2.1.below hb, h.2.2.2.2.1.below hb, h.2.2.2.2.2.1.below hb, h.2.2.2.2.2.2.trans (hb.mono h.2.2.2.2.2.2.size)⟩
set_option maxHeartbeats 8000000 in
theorem main (F : Stop.Interp) (h : Pl.HF) (ok : h.ok) (idx : Int) (jdx : Int) (Av : Option Addr) (cv : Nat) (P : List (List Nat)) (w : World) (hF : F.answers w.tape) (hH : Handle w) (hTb : Tab w) (hv : HashesR w (.slice Av P.length cv) P) (_gfP : Fits P) (HFP : Hid (∀ W, Below w.heap.size w W → Calls Tryf.prog 8 #[.slice Av P.length cv] W fun e w' => e = .returned (.bool true) ∧ W = w')) (geP : IsLeaves P) (HEP : Hid (∀ W, Below w.heap.size w W → Calls Tryf.prog 9 #[.slice Av P.length cv] W fun e w' => e = .returned (.bool true) ∧ W = w')) (_q1 : 1 ≤ idx) (_q3 : idx ≤ jdx) (_q2 : jdx ≤ (P.length : Int)) :
    Calls Tryf.prog 4 #[hashV h, .int .i64 (idx : Int), .int .i64 (jdx : Int), .slice Av P.length cv] w fun e w' => e = .returned (.bool true) ∧ Below w.heap.size w w' := by
  obtain ⟨m, rfl⟩ := Int.eq_ofNat_of_zero_le (show (0 : Int) ≤ idx by omega)
  obtain ⟨k, rfl⟩ := Int.eq_ofNat_of_zero_le (show (0 : Int) ≤ jdx by omega)
  have hm1 : 1 ≤ m := by omega
  have hmk : m ≤ k := by omega
  have hk : k ≤ P.length := by omega
  obtain ⟨l1, l2, l3⟩ := geP
  have HB := Lib.hid (fun C => (Below.refl w.heap.size w).alloc (Nat.le_refl _) (.cells C 24))
  have HPr := Lib.hid (fun (W : World) (hb : Below w.heap.size w W) => proves_c W (hH.below hb))
  obtain ⟨A', cap', e', hcap, hby, hat⟩ := id hv
  injection e' with e1 e2 e3
  subst e1 e3
  obtain ⟨g, o, rfl, hat2⟩ := hat (by omega)
  clear hat hat2 e2 hcap hby
  obtain ⟨hh, r1⟩ := head_slice hv m (by omega) (by omega)
  obtain ⟨hh2, r2⟩ := head_slice hv k hk (by omega)
  have hkl : (P.take k).length = k := by simp; omega
  have htt : (P.take k).take m = P.take m := by rw [List.take_take, Nat.min_eq_left hmk]
  have HP1 := Lib.hid (fun (W : World) (hb : Below w.heap.size w W) => proof_c h ok _ (P.take k) m W (by omega) (by omega) hm1 (by omega) (hh2.below hb))
  have HP2 := Lib.hid (fun (W : World) (hb : Below w.heap.size w W) => proof_c h ok _ P k W (by omega) (by omega) (by omega) hk (hv.below hb))
  have HP3 := Lib.hid (fun (W : World) (hb : Below w.heap.size w W) => proof_c h ok _ P m W (by omega) (by omega) hm1 (by omega) (hv.below hb))
  have HM1 := Lib.hid (fun (W : World) (hb : Below w.heap.size w W) => mth_c h ok _ (P.take m) W (by simp; omega) (by simp; omega) (hh.below hb))
  have HM2 := Lib.hid (fun (W : World) (hb : Below w.heap.size w W) => mth_c h ok _ (P.take k) W (by omega) (by omega) (hh2.below hb))
  have HM3 := Lib.hid (fun (W : World) (hb : Below w.heap.size w W) => mth_c h ok _ P W (by omega) (by omega) (hv.below hb))
  have hft : ∀ x ∈ P.take k, x.length = 2 := fun x hx => l1 x (List.mem_of_mem_take hx)
  have HV1 : Hid (∀ (W : World) (u a b : Value), Below w.heap.size w W → HashesR W u (Pl.proofL h m (P.take k) true) → BytesR W a (Pl.mth h (P.take m)) → BytesR W b (Pl.mth h (P.take k)) → Calls Tryf.prog 10 #[hashV h, .int .u64 (m : Int), .int .u64 (k : Int), u, a, b] W fun e w' => e = .returned (.int .i64 0) ∧ Below W.heap.size W w') := Lib.hid (fun W u a b hb hu ha hb2 => by
    have := verC_any F h ok m k u a b _ _ _ W (ans_below hF hb) (hTb.below hb) ha hu hb2 (proof_fits h (P.take k) m true hm1 (by omega) (by omega) hft) (hH.below hb) hm1 hmk (by omega)
    have e := kV_proof h (P.take k) m hm1 (by omega)
    rw [hkl, htt] at e
    rw [e] at this
    exact this)
  have HV2 : Hid (∀ (W : World) (u a b : Value), Below w.heap.size w W → HashesR W u (Pl.proofL h k P true) → BytesR W a (Pl.mth h (P.take k)) → BytesR W b (Pl.mth h P) → Calls Tryf.prog 10 #[hashV h, .int .u64 (k : Int), .int .u64 ((P.length : Nat) : Int), u, a, b] W fun e w' => e = .returned (.int .i64 0) ∧ Below W.heap.size W w') := Lib.hid (fun W u a b hb hu ha hb2 => by
    have := verC_any F h ok k P.length u a b _ _ _ W (ans_below hF hb) (hTb.below hb) ha hu hb2 (proof_fits h P k true (by omega) hk l3 l1) (hH.below hb) (by omega) hk (by omega)
    rw [kV_proof h P k (by omega) hk] at this
    exact this)
  have HV3 : Hid (∀ (W : World) (u a b : Value), Below w.heap.size w W → HashesR W u (Pl.proofL h m P true) → BytesR W a (Pl.mth h (P.take m)) → BytesR W b (Pl.mth h P) → Calls Tryf.prog 10 #[hashV h, .int .u64 (m : Int), .int .u64 ((P.length : Nat) : Int), u, a, b] W fun e w' => e = .returned (.int .i64 0) ∧ Below W.heap.size W w') := Lib.hid (fun W u a b hb hu ha hb2 => by
    have := verC_any F h ok m P.length u a b _ _ _ W (ans_below hF hb) (hTb.below hb) ha hu hb2 (proof_fits h P m true hm1 (by omega) l3 l1) (hH.below hb) hm1 (by omega) (by omega)
    rw [kV_proof h P m hm1 (by omega)] at this
    exact this)
  have e1 : IntKind.u64.wrap (m : Int) = (m : Int) := wrapN m (by omega)
  have e2 : IntKind.u64.wrap (k : Int) = (k : Int) := wrapN k (by omega)
  have e3 : IntKind.u64.wrap ((P.length : Nat) : Int) = ((P.length : Nat) : Int) := wrapN _ (by omega)
  have g1 : ¬ (m : Int) < 1 := by omega
  have g1' : decide (m < 1) = false := decide_eq_false (by omega)
  have g2 : ¬ (k : Int) < (m : Int) := by omega
  have g2' : decide (k < m) = false := decide_eq_false (by omega)
  have g3 : ¬ ((P.length : Nat) : Int) < (k : Int) := by omega
  have g3' : decide (P.length < k) = false := decide_eq_false (by omega)
  generalize Pl.proofL h m (P.take k) true = p1 at *
  generalize Pl.proofL h k P true = p2 at *
  generalize Pl.proofL h m P true = p3 at *
  generalize Pl.mth h (P.take m) = ra at *
  generalize Pl.mth h (P.take k) = rb at *
  generalize Pl.mth h P = rc at *
  clear hF hH hTb hv hh hh2 _gfP l1 l2 l3 _q1 _q2 _q3 hm1 hmk hk ok htt hft hkl
  generalize P.length = n at *
  obtain ⟨Ah, Bh, Ch⟩ := h
  unfold hashV at HP1 HP2 HP3 HM1 HM2 HM3 HV1 HV2 HV3 ⊢
  simp only [] at HP1 HP2 HP3 HM1 HM2 HM3 HV1 HV2 HV3 ⊢
  go_enter Tryf.func4, Tryf.ntmps4
  go_wp2_with fail
  refine (HFP.out _ (HB.out _)).mono ?_; rintro e w' ⟨rfl, rfl⟩
  go_wp2_with fail
  refine (HEP.out _ (HB.out _)).mono ?_; rintro e w' ⟨rfl, rfl⟩
  go_wp2_with fail
  have S0 : S1 w (.int .u32 (Ah : Int)) (.int .u32 (Bh : Int)) (.int .u32 (Ch : Int)) (w.alloc (.cells #[.int .u32 (Ah : Int), .int .u32 (Bh : Int), .int .u32 (Ch : Int)] 24)).drew := ⟨by simp, by simp, by simp, (HB.out _).drew⟩
  go_region_held3 (fun w' => w'.cell? ⟨w.heap.size, 0, none⟩ = some (.int .u32 (Ah : Int)) ∧ w'.cell? ⟨w.heap.size, 1, none⟩ = some (.int .u32 (Bh : Int)) ∧ w'.cell? ⟨w.heap.size, 2, none⟩ = some (.int .u32 (Ch : Int)) ∧ Below w.heap.size w w')
    (first | assumption | exact S0 | exact keepS1 hba (by assumption))
    (first
      | (go_at_call 12; refine (HM1.out _ (show S1 w (.int .u32 (Ah : Int)) (.int .u32 (Bh : Int)) (.int .u32 (Ch : Int)) _ by assumption).2.2.2).mono ?_; rintro e w' ⟨ua, rfl, hua, hba⟩))
  all_goals
    have hs1 := (show S1 w (.int .u32 (Ah : Int)) (.int .u32 (Bh : Int)) (.int .u32 (Ch : Int)) w' by assumption)
    have HUa := Lib.hid hua
    obtain ⟨Aa, na, ka, rfl⟩ := hua.form
    have S1d : S1 w (.int .u32 (Ah : Int)) (.int .u32 (Bh : Int)) (.int .u32 (Ch : Int)) w'.drew := ⟨hs1.1, hs1.2.1, hs1.2.2.1, hs1.2.2.2.drew⟩
    clear hua hba S0 hs1
    go_wp2_with fail
    generalize w' = wa at *
    go_region_held3 (fun w' => w'.cell? ⟨w.heap.size, 0, none⟩ = some (.int .u32 (Ah : Int)) ∧ w'.cell? ⟨w.heap.size, 1, none⟩ = some (.int .u32 (Bh : Int)) ∧ w'.cell? ⟨w.heap.size, 2, none⟩ = some (.int .u32 (Ch : Int)) ∧ BytesR w' (.slice Aa na ka) ra ∧ Below w.heap.size w w')
      (first | assumption | exact ⟨S1d.1, S1d.2.1, S1d.2.2.1, HUa.out.below (Below.refl _ _).drew, S1d.2.2.2⟩ | exact keepS1a hbb (by assumption))
      (first
        | (go_at_call 12; refine (HM2.out _ (show S1a w (.int .u32 (Ah : Int)) (.int .u32 (Bh : Int)) (.int .u32 (Ch : Int)) _ _ _ by assumption).2.2.2.2).mono ?_; rintro e w' ⟨ub, rfl, hub, hbb⟩))
    all_goals
      have hs2 := (show S1a w (.int .u32 (Ah : Int)) (.int .u32 (Bh : Int)) (.int .u32 (Ch : Int)) (.slice Aa na ka) ra w' by assumption)
      have HUb := Lib.hid hub
      obtain ⟨Ab, nb, kb, rfl⟩ := hub.form
      have HUa2 := Lib.hid hs2.2.2.2.1
      have B2 := hs2.2.2.2.2
      obtain ⟨c1, c2, c3, _, _⟩ := hs2
      clear hub hbb S1d HUa
      go_wp2_with fail
      refine (HM3.out _ B2).mono ?_; rintro e w3 ⟨uc, rfl, huc, hbc⟩
      have B3 := keep1 B2 hbc
      have HUc := Lib.hid huc
      obtain ⟨Ac, nc, kc, rfl⟩ := huc.form
      have up : ∀ {p : Addr} {v : Value}, w'.cell? p = some v → w3.cell? p = some v := fun {p} {_} h => (hbc.cell (World.block_lt_of_cell? w' p h)).trans h
      have S3d : S3 w (.int .u32 (Ah : Int)) (.int .u32 (Bh : Int)) (.int .u32 (Ch : Int)) (.slice Aa na ka) (.slice Ab nb kb) (.slice Ac nc kc) ra rb rc w3.drew := ⟨up c1, up c2, up c3, HUa2.out.below hbc.drew, HUb.out.below hbc.drew, HUc.out.below (Below.refl _ _).drew, B3.drew⟩
      clear huc hbc up c1 c2 c3 B2 B3 HUa2 HUb HUc HM1 HM2 HM3
      go_wp2_with fail
      go_region_held3 (fun w' => w'.cell? ⟨w.heap.size, 0, none⟩ = some (.int .u32 (Ah : Int)) ∧ w'.cell? ⟨w.heap.size, 1, none⟩ = some (.int .u32 (Bh : Int)) ∧ w'.cell? ⟨w.heap.size, 2, none⟩ = some (.int .u32 (Ch : Int)) ∧ BytesR w' (.slice Aa na ka) ra ∧ BytesR w' (.slice Ab nb kb) rb ∧ BytesR w' (.slice Ac nc kc) rc ∧ Below w.heap.size w w')
        (first | assumption | exact S3d | exact keepS3 hbp (by assumption) | exact keepS3 hbv (by assumption))
        (first
          | (go_at_call_of 11 (Value.slice (some ⟨g, o, none⟩) k cv); refine (HP1.out _ (show S3 w (.int .u32 (Ah : Int)) (.int .u32 (Bh : Int)) (.int .u32 (Ch : Int)) _ _ _ _ _ _ _ by assumption).2.2.2.2.2.2).mono ?_; rintro e w' ⟨up, rfl, hup0, hbp⟩; have hup1 := hup0.hashes)
          | (go_at_call_of 11 (Value.int .i64 (k : Int)); refine (HP2.out _ (show S3 w (.int .u32 (Ah : Int)) (.int .u32 (Bh : Int)) (.int .u32 (Ch : Int)) _ _ _ _ _ _ _ by assumption).2.2.2.2.2.2).mono ?_; rintro e w' ⟨up, rfl, hup0, hbp⟩; have hup2 := hup0.hashes)
          | (go_at_call_of 11 (Value.int .i64 (m : Int)); refine (HP3.out _ (show S3 w (.int .u32 (Ah : Int)) (.int .u32 (Bh : Int)) (.int .u32 (Ch : Int)) _ _ _ _ _ _ _ by assumption).2.2.2.2.2.2).mono ?_; rintro e w' ⟨up, rfl, hup0, hbp⟩; have hup3 := hup0.hashes)
          | (go_at_call_of 10 (Value.slice Ac nc kc); go_at_call_of 10 (Value.slice Ab nb kb); refine (HV2.out _ _ _ _ (show S3 w (.int .u32 (Ah : Int)) (.int .u32 (Bh : Int)) (.int .u32 (Ch : Int)) _ _ _ _ _ _ _ by assumption).2.2.2.2.2.2 hup2 (show S3 w (.int .u32 (Ah : Int)) (.int .u32 (Bh : Int)) (.int .u32 (Ch : Int)) _ _ _ _ _ _ _ by assumption).2.2.2.2.1 (show S3 w (.int .u32 (Ah : Int)) (.int .u32 (Bh : Int)) (.int .u32 (Ch : Int)) _ _ _ _ _ _ _ by assumption).2.2.2.2.2.1).mono ?_; rintro e w' ⟨rfl, hbv⟩)
          | (go_at_call_of 10 (Value.slice Ac nc kc); refine (HV3.out _ _ _ _ (show S3 w (.int .u32 (Ah : Int)) (.int .u32 (Bh : Int)) (.int .u32 (Ch : Int)) _ _ _ _ _ _ _ by assumption).2.2.2.2.2.2 hup3 (show S3 w (.int .u32 (Ah : Int)) (.int .u32 (Bh : Int)) (.int .u32 (Ch : Int)) _ _ _ _ _ _ _ by assumption).2.2.2.1 (show S3 w (.int .u32 (Ah : Int)) (.int .u32 (Bh : Int)) (.int .u32 (Ch : Int)) _ _ _ _ _ _ _ by assumption).2.2.2.2.2.1).mono ?_; rintro e w' ⟨rfl, hbv⟩)
          | (go_at_call 10; refine (HV1.out _ _ _ _ (show S3 w (.int .u32 (Ah : Int)) (.int .u32 (Bh : Int)) (.int .u32 (Ch : Int)) _ _ _ _ _ _ _ by assumption).2.2.2.2.2.2 hup1 (show S3 w (.int .u32 (Ah : Int)) (.int .u32 (Bh : Int)) (.int .u32 (Ch : Int)) _ _ _ _ _ _ _ by assumption).2.2.2.1 (show S3 w (.int .u32 (Ah : Int)) (.int .u32 (Bh : Int)) (.int .u32 (Ch : Int)) _ _ _ _ _ _ _ by assumption).2.2.2.2.1).mono ?_; rintro e w' ⟨rfl, hbv⟩)
          | (go_at_call 13; refine (HPr.out _ (show S3 w (.int .u32 (Ah : Int)) (.int .u32 (Bh : Int)) (.int .u32 (Ch : Int)) _ _ _ _ _ _ _ by assumption).2.2.2.2.2.2).mono ?_; rintro e w' ⟨rfl, hbv⟩))
      all_goals
        have hfin := (show S3 w (.int .u32 (Ah : Int)) (.int .u32 (Bh : Int)) (.int .u32 (Ch : Int)) (.slice Aa na ka) (.slice Ab nb kb) (.slice Ac nc kc) ra rb rc w' by assumption).2.2.2.2.2.2
        go_wp2
        go_ret
        exact ⟨by first | rfl | (simp <;> omega), hfin⟩
set_option maxHeartbeats 2000000 in
theorem walk (F : Stop.Interp) (w : World) (hF : F.answers w.tape) (h : Pl.HF) (ok : h.ok) (a1 : Int) (w1 : -9223372036854775808 ≤ a1 ∧ a1 ≤ 9223372036854775807) (a2 : Int) (w2 : -9223372036854775808 ≤ a2 ∧ a2 ≤ 9223372036854775807) (v : Value) (P : List (List Nat)) (hv : HashesR w v P) (hT : LaidIsH w) :
    Calls Tryf.prog 4 #[hashV h, .int .i64 a1, .int .i64 a2, v] w fun e w' => e = .returned (.bool true) ∧ Below w.heap.size w w' := by
  have _wj1 := w1
  clear _wj1
  have _wj2 := w2
  clear _wj2
  have HB := Lib.hid (fun C => (Below.refl w.heap.size w).alloc (Nat.le_refl _) (.cells C 24))
  obtain ⟨Av, cv, ev, h9v⟩ := id hv
  clear h9v
  subst ev
  by_cases g0 : ¬ Fits P
  case pos =>
    have HFx : Hid (∀ W, Below w.heap.size w W → Calls Tryf.prog 8 #[.slice Av P.length cv] W fun e w' => e = .returned (.bool false) ∧ W = w') := Lib.hid (fun W hb => (fits1_c (.slice Av P.length cv) P W (hv.below hb)).mono fun _ _ r => r.no g0)
    obtain ⟨Ah, Bh, Ch⟩ := h
    unfold hashV
    clear hT hF w1 w2 hv g0 ok
    go_enter Tryf.func4, Tryf.ntmps4
    go_wp2_with fail
    refine (HFx.out _ (HB.out _)).mono ?_; rintro e w' ⟨rfl, rfl⟩
    go_wp2_with fail
    go_ret
    exact ⟨rfl, HB.out _⟩
  have gfP : Fits P := Classical.not_not.1 g0
  clear g0
  have HFP : Hid (∀ W, Below w.heap.size w W → Calls Tryf.prog 8 #[.slice Av P.length cv] W fun e w' => e = .returned (.bool true) ∧ W = w') := Lib.hid (fun W hb => (fits1_c (.slice Av P.length cv) P W (hv.below hb)).mono fun _ _ r => r.yes gfP)
  by_cases g1 : ¬ IsLeaves P
  case pos =>
    have HSx : Hid (∀ W, Below w.heap.size w W → Calls Tryf.prog 9 #[.slice Av P.length cv] W fun e w' => e = .returned (.bool false) ∧ W = w') := Lib.hid (fun W hb => (leaves_c (.slice Av P.length cv) P W (hv.below hb) gfP.1).mono fun _ _ r => r.no g1)
    obtain ⟨Ah, Bh, Ch⟩ := h
    unfold hashV
    clear hT hF w1 w2 hv gfP g1 ok
    go_enter Tryf.func4, Tryf.ntmps4
    go_wp2_with fail
    refine (HFP.out _ (HB.out _)).mono ?_; rintro e w' ⟨rfl, rfl⟩
    go_wp2_with fail
    refine (HSx.out _ (HB.out _)).mono ?_; rintro e w' ⟨rfl, rfl⟩
    go_wp2_with fail
    go_ret
    exact ⟨rfl, HB.out _⟩
  have geP : IsLeaves P := Classical.not_not.1 g1
  clear g1
  have HEP : Hid (∀ W, Below w.heap.size w W → Calls Tryf.prog 9 #[.slice Av P.length cv] W fun e w' => e = .returned (.bool true) ∧ W = w') := Lib.hid (fun W hb => (leaves_c (.slice Av P.length cv) P W (hv.below hb) gfP.1).mono fun _ _ r => r.yes geP)
  by_cases g2 : a1 < 1
  case pos =>
    obtain ⟨Ah, Bh, Ch⟩ := h
    unfold hashV
    clear hT hF w1 w2 hv geP gfP ok
    go_enter Tryf.func4, Tryf.ntmps4
    go_wp2_with fail
    refine (HFP.out _ (HB.out _)).mono ?_; rintro e w' ⟨rfl, rfl⟩
    go_wp2_with fail
    refine (HEP.out _ (HB.out _)).mono ?_; rintro e w' ⟨rfl, rfl⟩
    go_wp2_with fail
    go_ret
    exact ⟨rfl, HB.out _⟩
  by_cases g3 : a2 < a1
  case pos =>
    obtain ⟨Ah, Bh, Ch⟩ := h
    unfold hashV
    clear hT hF w1 w2 hv geP gfP ok
    go_enter Tryf.func4, Tryf.ntmps4
    go_wp2_with fail
    refine (HFP.out _ (HB.out _)).mono ?_; rintro e w' ⟨rfl, rfl⟩
    go_wp2_with fail
    refine (HEP.out _ (HB.out _)).mono ?_; rintro e w' ⟨rfl, rfl⟩
    go_wp2_with fail
    go_ret
    exact ⟨rfl, HB.out _⟩
  by_cases g4 : (P.length : Int) < a2
  case pos =>
    obtain ⟨Ah, Bh, Ch⟩ := h
    unfold hashV
    clear hT hF w1 w2 hv geP gfP ok
    go_enter Tryf.func4, Tryf.ntmps4
    go_wp2_with fail
    refine (HFP.out _ (HB.out _)).mono ?_; rintro e w' ⟨rfl, rfl⟩
    go_wp2_with fail
    refine (HEP.out _ (HB.out _)).mono ?_; rintro e w' ⟨rfl, rfl⟩
    go_wp2_with fail
    go_ret
    exact ⟨rfl, HB.out _⟩
  exact main F h ok a1 a2 Av cv P w hF hT.handle hT.1 hv gfP HFP geP HEP (by omega) (by omega) (by omega)
theorem reads (os : Os) {H : Type} (enc : TypeId × Value → H) : ∃ places, DataW.whole enc Tryf.prog ((laidWorldH os).forCall (fun _ _ => 0) ⟨#[], #[.agg #[.int .u32 0, .int .u32 0, .int .u32 0], .int .i64 0, .int .i64 0, .slice none 0 0], []⟩).memory Tryf.f4.params.toList Rows.fnConsistencyPrefixSpec.vars false (#[.agg #[.int .u32 0, .int .u32 0, .int .u32 0], .int .i64 0, .int .i64 0, .slice none 0 0] : Array Value).toList 8 = some ([.agg [.lit (.int .u32 0), .lit (.int .u32 0), .lit (.int .u32 0)], .lit (.int .i64 0), .lit (.int .i64 0), .nil], [], places) :=
  ⟨[], by kernel_rfl⟩
set_option maxRecDepth 100000 in
theorem contract (F : Stop.Interp) (H : Type) (enc : TypeId × Value → H) (W : World) (base : Nat) (args : Array Value) (ds gs : List (DataW H)) (before : List MemPlace) (hF : F.told.answers W.tape)
    (hval0 : ∀ (j : Nat) t v, Tryf.f4.params[j]? = some t → args[j]? = some v → Value.okWide Tryf.prog W .any base t v)
    (hW : DataW.Whole enc Tryf.prog Tryf.f4.params.toList Rows.fnConsistencyPrefixSpec.vars false W args.toList ds gs before) (hL : laidMetH Tryf.prog Rows.fnConsistencyPrefixRow.laid W) :
    Calls Tryf.prog 4 args W fun e W' => ∃ v, e = .returned v ∧ ((OpenSpec.ofChange Rows.fnConsistencyPrefixSpec).at F.told).post enc Tryf.prog Tryf.f4 false true false false W args v W' := by
  have hval : ∀ (j : Nat) t v, Tryf.f4.params[j]? = some t → args[j]? = some v → Value.okWide Tryf.prog W .any base t v := hval0
  have hW' := hW
  obtain ⟨p, q, hA0, hV, rfl, hfz, hnd⟩ := hW
  have hA : DataW.TrodAll enc Tryf.prog W 0 (fun _ => true) true Tryf.f4.params.toList args.toList ds p := hA0
  rw [Tryf.params4] at hA hval
  obtain ⟨v0, vs0, d0, ds0, p0, q0, hargs, rfl, rfl, h0, r0⟩ := trodAll_cons hA
  obtain ⟨v1, vs1, d1, ds1, p1, q1, rfl, rfl, rfl, h1, r1⟩ := trodAll_cons r0
  obtain ⟨v2, vs2, d2, ds2, p2, q2, rfl, rfl, rfl, h2, r2⟩ := trodAll_cons r1
  obtain ⟨v3, vs3, d3, ds3, p3, q3, rfl, rfl, rfl, h3, r3⟩ := trodAll_cons r2
  obtain ⟨rfl, rfl, rfl⟩ := trodAll_nil r3
  obtain rfl : args = #[v0, v1, v2, v3] := by cases args; simp_all
  obtain ⟨rfl, rfl⟩ := trodVars_none hV
  have k0 := h0
  have lt0 : ∀ x ∈ p0, x.block < W.heap.size := by obtain ⟨m, hm⟩ := k0; exact DataW.trod_lt m _ _ _ hm
  obtain ⟨hh0, rfl, w0⟩ := openHash (hval 0 24 v0 rfl rfl) h0
  have k1 := h1
  have lt1 : ∀ x ∈ p1, x.block < W.heap.size := by obtain ⟨m, hm⟩ := k1; exact DataW.trod_lt m _ _ _ hm
  obtain ⟨a1, rfl, hd1, hp1, w1⟩ := open_int Tryf.underlying3 (hval 1 3 v1 rfl rfl) h1
  have k2 := h2
  have lt2 : ∀ x ∈ p2, x.block < W.heap.size := by obtain ⟨m, hm⟩ := k2; exact DataW.trod_lt m _ _ _ hm
  obtain ⟨a2, rfl, hd2, hp2, w2⟩ := open_int Tryf.underlying3 (hval 2 3 v2 rfl rfl) h2
  have k3 := h3
  have lt3 : ∀ x ∈ p3, x.block < W.heap.size := by obtain ⟨m, hm⟩ := k3; exact DataW.trod_lt m _ _ _ hm
  obtain ⟨L3, w3⟩ := openHashes (hval 3 25 v3 rfl rfl) h3
  refine (walk F.told W hF hh0 w0 a1 (bound_i64 w1) a2 (bound_i64 w2) v3 L3 w3 (laidIsH_of hL)).mono fun e W' ⟨he, bel⟩ => ?_
  subst he
  exact ⟨_, rfl, _, _, _, [], _, [], hW', trodAll_mk1 (shut_bool Tryf.underlying4 _), (trodAll_cons_mk (Below.trod laidOut (by kernel_rfl) (of_decide_eq_true (by kernel_rfl)) k0 bel lt0) (trodAll_cons_mk (Below.trod laidOut (by kernel_rfl) (of_decide_eq_true (by kernel_rfl)) k1 bel lt1) (trodAll_cons_mk (Below.trod laidOut (by kernel_rfl) (of_decide_eq_true (by kernel_rfl)) k2 bel lt2) (trodAll_cons_mk (Below.trod laidOut (by kernel_rfl) (of_decide_eq_true (by kernel_rfl)) k3 bel lt3) trodAll_mk0)))), rfl, bel.frame _, fun h => by cases h⟩
set_option maxRecDepth 100000 in
theorem lifted (os : Os) (started : os.Started) (H : Type) (enc : TypeId × Value → H) :
    ReturnsInTold none {} Tryf.checked os 4 .any Input.okWide ((OpenSpec.ofChange Rows.fnConsistencyPrefixSpec).preRow enc Tryf.prog Tryf.f4 Rows.fnConsistencyPrefixRow.domain false Rows.fnConsistencyPrefixRow.laid) (fun F => ((OpenSpec.ofChange Rows.fnConsistencyPrefixSpec).at F).post enc Tryf.prog Tryf.f4 false true false false) (aloneAtReturn Tryf.prog) nothingAlways := by
  obtain ⟨places, hx⟩ := reads os enc
  refine returnsInTold_of_row (C := Tryf.checked) (s := OpenSpec.ofChange Rows.fnConsistencyPrefixSpec) mayEnter own started (by kernel_rfl) Tryf.func4
    (OpenSpec.witness_stopped_at (enc := enc) (C := Tryf.checked) false (laidWorldH os) #[.agg #[.int .u32 0, .int .u32 0, .int .u32 0], .int .i64 0, .int .i64 0, .slice none 0 0] rfl (by kernel_rfl) (by kernel_rfl) (by kernel_rfl)
      (OpenSpec.preRow_of_cond 8 hx (by kernel_rfl) (fun k hk => by cases hk) (by kernel_rfl) (laid_metH os #[.agg #[.int .u32 0, .int .u32 0, .int .u32 0], .int .i64 0, .int .i64 0, .slice none 0 0]))) ?_
  intro F W base args ds gs before _ hF hval hW _ _ _ hL _
  exact contract F H enc W base args ds gs before hF hval hW hL
theorem proved : Rows.FnConsistencyPrefixToldSaid :=
  Claim7.holds_of_told_tied_any_at .later 4 Tryf.f4 "fmt.errorf" [] [] _ _ _ _ _ (by kernel_rfl) rfl rfl rfl laidOut (by kernel_rfl) rfl ⟨rfl, rfl, rfl, rfl, rfl, rfl, rfl⟩ rfl rfl (by kernel_rfl) (by kernel_rfl) Tryf.func4 (by kernel_rfl)
    (of_decide_eq_true (by kernel_rfl)) (by unfold Func.isWrapper; first | (rw [if_pos (by decide +kernel)]; kernel_rfl) | (rw [if_neg (by decide +kernel)]; exact ⟨rfl, rfl⟩)) stopsAre.symm rfl stopKnobs.symm (by kernel_rfl)
    (by kernel_rfl) (by kernel_rfl) (by kernel_rfl) (by kernel_rfl) (by kernel_rfl) (by kernel_rfl) (by kernel_rfl) (by kernel_rfl) (by kernel_rfl) rfl (by kernel_rfl) rfl rfl
    rfl rfl
    rfl mainIs (by kernel_rfl) (by kernel_rfl) (by decide) (by kernel_rfl) fnConsistencyPrefix_row_tie
    (OpenClaim.moreEntering_of mayEnter (by kernel_rfl) (by kernel_rfl) (by kernel_rfl) (by kernel_rfl) (by kernel_rfl) (by kernel_rfl) (by kernel_rfl) liftsFinal.symm make)
    ⟨_, WideRow.started_initial, quiet _⟩
    (fun os started _ H enc _ => lifted os started H enc)
end Go.Proofs.YteilafhajhbdaaaFmt.fnConsistencyPrefix
