/- The roots of a range as it grows are consistent, by the nodes and hashes that were told. -/
import Derived.Test.YtobnmgnnidhfkaaFmtImplApp
import Derived.Test.YtobnmgnnidhfkaaFmtImplVer
import Derived.Test.YtobnmgnnidhfkaaFmtMthW
import Derived.Test.YtobnmgnnidhfkaaFmtAppend
import Derived.Test.YtobnmgnnidhfkaaFmtOpen
import Derived.Test.YtobnmgnnidhfkaaFmtPlan
import Derived.Test.YtobnmgnnidhfkaaFmtHashOf
import Derived.Test.YtobnmgnnidhfkaaFmtEphem
import Derived.Test.YtobnmgnnidhfkaaFmtHeard
import Derived.Test.YtobnmgnnidhfkaaFmtKeep
import Derived.Test.YtobnmgnnidhfkaaFmtVerErr
import Derived.Test.YtobnmgnnidhfkaaFmtCd
import Derived.Test.YtobnmgnnidhfkaaFmtTz
import Derived.StillTailTactics
namespace Go.Proofs.YtobnmgnnidhfkaaFmt.fnRangeConsistency
open Go.ChangeShapes Go.WideShapes Go.ChangeAt Go.RowKit
set_option maxRecDepth 100000
theorem wpAnyE_two {P : Program} {ops : Array Oper} {Q : Exit → Act → World → Prop} {md : Region.Mode} {S : World → Prop} {X : List Nat} (i j : Nat) {o p : Oper} {fuel : Nat} {listed : Array Bool} {a : Act} {w : World} (hr : Region.ready md ops listed = [i, j]) (hi : ops[i]? = some o) (hj : ops[j]? = some p)
    (h : ∀ K' : Act → World → Prop, Shut (∀ a w, (i ∉ X → S w) → wpAnyE P md ops Q S X fuel (listed.setIfInBounds i true) a w → K' a w) → if Region.wanted o (yielded ops a.tmps) = true then Oper.wp P o a w K' Q else K' (a.put o.dst undef) w)
    (h' : ∀ K' : Act → World → Prop, Shut (∀ a w, (j ∉ X → S w) → wpAnyE P md ops Q S X fuel (listed.setIfInBounds j true) a w → K' a w) → if Region.wanted p (yielded ops a.tmps) = true then Oper.wp P p a w K' Q else K' (a.put p.dst undef) w) :
    wpAnyE P md ops Q S X (fuel + 1) listed a w :=
  ⟨fun h0 => (by rw [hr] at h0; cases h0), fun k hk => by
    rw [hr] at hk
    rcases List.mem_cons.1 hk with rfl | hk
    · exact wpOp_step hi (fun K' hK => h K' (fun a w hS hW => hK a w ⟨hS, hW⟩))
    · obtain rfl := List.mem_singleton.1 hk
      exact wpOp_step hj (fun K' hK => h' K' (fun a w hS hW => hK a w ⟨hS, hW⟩))⟩
abbrev S1 (w : World) (x1 x2 x3 : Value) (w' : World) : Prop := w'.cell? ⟨w.heap.size, 0, none⟩ = some x1 ∧ w'.cell? ⟨w.heap.size, 1, none⟩ = some x2 ∧ w'.cell? ⟨w.heap.size, 2, none⟩ = some x3 ∧ Below w.heap.size w w'
theorem keepS1 {w W w' : World} {x1 x2 x3 : Value} (hb : Below W.heap.size W w') (h : S1 w x1 x2 x3 W) : S1 w x1 x2 x3 w' :=
  have up : ∀ {p : Addr} {v : Value}, W.cell? p = some v → w'.cell? p = some v := fun {p} {_} h => (hb.cell (World.block_lt_of_cell? W p h)).trans h
  ⟨up h.1, up h.2.1, up h.2.2.1, h.2.2.2.trans (hb.mono h.2.2.2.size)⟩
theorem mr_len2 (h : Pl.HF) (f : Nat → List Nat) (a n : Nat) (h1 : 1 ≤ n) (hf : ∀ i, a ≤ i → i < a + n → (f i).length = 2) : (Pl.mr h f a n).length = 2 := by
  by_cases hn : 2 ≤ n
  · rw [Pl.mr_two _ _ _ _ hn]; rfl
  · obtain rfl : n = 1 := by omega
    rw [Pl.mr_one]; exact hf a (Nat.le_refl _) (by omega)
theorem nodeHs_fits (h : Pl.HF) (L : List (List Nat)) (N : List (Nat × Nat)) (hL : ∀ x ∈ L, x.length = 2) (ho : OfLeaves L.length N) (hN : N.length ≤ 2147483647) : Fits (nodeHs h L N) := by
  refine ⟨by rw [nodeHs_length]; exact hN, fun x hx => ?_⟩
  obtain ⟨p, hp, rfl⟩ := List.mem_map.1 hx
  have h1 := (ho p hp).2
  have h2 := Nat.two_pow_pos p.1
  rw [Nat.add_mul, Nat.one_mul] at h1
  rw [mr_len2 h (Pl.atL L) _ _ h2 (fun i _ hi => ?_)]
  · omega
  · unfold Pl.atL
    rw [List.getD_eq_getElem?_getD, List.getElem?_eq_getElem (by omega)]
    exact hL _ (List.getElem_mem _)
theorem proof_fits (h : Pl.HF) (D : List (List Nat)) (m : Nat) (wh : Bool) (h1 : 1 ≤ m) (hm : m ≤ D.length) (hD : D.length ≤ 200) (h2 : ∀ x ∈ D, x.length = 2) : Fits (Pl.proofL h m D wh) := by
  refine ⟨by have := proof_len h m D wh (by omega); omega, fun x hx => ?_⟩
  unfold Pl.proofL Pl.hl at hx
  obtain ⟨p, hp, rfl⟩ := List.mem_map.1 hx
  obtain ⟨_, i2, i3⟩ := Pl.cproof_in m D.length 0 wh hm h1 p hp
  rw [mr_len2 h (Pl.atL D) _ _ i3 (fun i _ hi => ?_)]
  · decide
  · unfold Pl.atL
    rw [List.getD_eq_getElem?_getD, List.getElem?_eq_getElem (by omega)]
    exact h2 _ (List.getElem_mem _)
theorem kV_proof (h : Pl.HF) (D : List (List Nat)) (m : Nat) (h1 : 1 ≤ m) (hm : m ≤ D.length) : kV h (Pl.mth h (D.take m)) (Pl.mth h D) m D.length (Pl.proofL h m D true) = 0 := by
  rw [kV_zero, Pl.told_proof h D.length m D _ true rfl h1 hm (fun _ => rfl)]
  exact ⟨rfl, rfl, rfl⟩
theorem head_slice {w : World} {g o n cv : Nat} {P : List (List Nat)} (hv : HashesR w (.slice (some ⟨g, o, none⟩) n cv) P) (k : Nat) (hk : k ≤ P.length) (h1 : 1 ≤ P.length) :
    HashesR w (.slice (some ⟨g, o, none⟩) k cv) (P.take k) ∧ ∀ W, (Instr.slice 27 (.slice (some ⟨g, o, none⟩) n cv) none (some (.int .i64 (k : Int))) none).run Tryf.prog W = .ok (.slice (some ⟨g, o, none⟩) k cv) W := by
  have hc : P.length ≤ cv := by
    obtain ⟨_, _, e, hc, _⟩ := id hv
    injection e with e1 e2 e3
    rw [e3]; exact hc
  constructor
  · have := hv.head (k := k) hk
    rwa [if_neg (by omega), show (some (⟨g, o, none⟩ : Addr)).map (·.add 0) = some ⟨g, o, none⟩ by simp [add_plain3]] at this
  · intro W
    have := hashes_head (some ⟨g, o, none⟩) n cv k (by omega) W
    rwa [if_neg (by omega), show (some (⟨g, o, none⟩ : Addr)).map (·.add 0) = some ⟨g, o, none⟩ by simp [add_plain3]] at this
abbrev SC (w : World) (g3 g5 : Nat) (x1 x2 x3 rv1 rv2 pv : Value) (R1 R2 : List Nat) (L : List (List Nat)) (w' : World) : Prop := w'.cell? ⟨w.heap.size, 0, none⟩ = some x1 ∧ w'.cell? ⟨w.heap.size, 1, none⟩ = some x2 ∧ w'.cell? ⟨w.heap.size, 2, none⟩ = some x3 ∧ w'.cell? ⟨g3, 3, none⟩ = some rv1 ∧ w'.cell? ⟨g5, 3, none⟩ = some rv2 ∧ BytesR w' rv1 R1 ∧ BytesR w' rv2 R2 ∧ HashesR w' pv L ∧ Below w.heap.size w w'
theorem keepC {w W w' : World} {g3 g5 : Nat} {x1 x2 x3 rv1 rv2 pv : Value} {R1 R2 : List Nat} {L : List (List Nat)} (hb : Below W.heap.size W w') (h : SC w g3 g5 x1 x2 x3 rv1 rv2 pv R1 R2 L W) : SC w g3 g5 x1 x2 x3 rv1 rv2 pv R1 R2 L w' :=
  have up : ∀ {p : Addr} {v : Value}, W.cell? p = some v → w'.cell? p = some v := fun {p} {_} h => (hb.cell (World.block_lt_of_cell? W p h)).trans h
  ⟨up h.1, up h.2.1, up h.2.2.1, up h.2.2.2.1, up h.2.2.2.2.1, h.2.2.2.2.2.1.below hb, h.2.2.2.2.2.2.1.below hb, h.2.2.2.2.2.2.2.1.below hb, h.2.2.2.2.2.2.2.2.trans (hb.mono h.2.2.2.2.2.2.2.2.size)⟩
theorem consE_le {i n : Nat} (h1 : 0 < i) (h2 : i < n) (hn : n < 18446744073709551616) : Pl.consE i n ≤ (Pl.consL i n).length := by
  obtain ⟨_, k2, _⟩ := cl_spec h1 h2 hn
  have e2 := (sk_plan (Pl.cl i) (Pl.ci i) n).2
  unfold Pl.consE Pl.consL
  split
  · rw [e2]
    split
    · omega
    · unfold Pl.planL; simp [Pl.sibs_length] <;> omega
  · unfold Pl.planE Pl.planL
    simp only [List.length_append, List.length_reverse, List.length_cons, Pl.sibs_length]
    split <;> omega
set_option maxHeartbeats 8000000 in
theorem core (h : Pl.HF) (m g o cv : Nat) (P pth : List (List Nat)) (N : List (Nat × Nat)) (pb pe el ei : Nat) (rt1 rt2 : List Nat) (w : World)
    (HFP : Hid (∀ W, Below w.heap.size w W → Calls Tryf.prog 7 #[.slice (some ⟨g, o, none⟩) P.length cv] W fun e w' => e = .returned (.bool true) ∧ W = w'))
    (HEP : Hid (∀ W, Below w.heap.size w W → Calls Tryf.prog 12 #[.slice (some ⟨g, o, none⟩) P.length cv] W fun e w' => e = .returned (.bool true) ∧ W = w'))
    (hm1 : 1 ≤ m) (hm : m ≤ P.length) (h200 : P.length ≤ 200) (hNl : N.length ≤ 1000) (hOF : OfLeaves P.length N)
    (hrun : ∀ W, (Instr.slice 27 (.slice (some ⟨g, o, none⟩) P.length cv) none (some (.int .i64 (m : Int))) none).run Tryf.prog W = .ok (.slice (some ⟨g, o, none⟩) m cv) W)
    (HA1 : Hid (∀ W, Below w.heap.size w W → Calls Tryf.prog 13 #[hashV h, .int .u64 ((0 : Nat) : Int), .slice (some ⟨g, o, none⟩) m cv] W (RetAppD h (Pl.lv (P.take m) 0) 0 m W)))
    (HA2 : Hid (∀ W, Below w.heap.size w W → Calls Tryf.prog 13 #[hashV h, .int .u64 ((0 : Nat) : Int), .slice (some ⟨g, o, none⟩) P.length cv] W (RetAppD h (Pl.lv P 0) 0 P.length W)))
    (HR1 : Hid (Pl.rootAt h 0 (Pl.ph h (Pl.lv (P.take m) 0) 0 (0 + m)) = rt1)) (HR2 : Hid (Pl.rootAt h 0 (Pl.ph h (Pl.lv P 0) 0 (0 + P.length)) = rt2))
    (HIP : Hid (∀ W, Tab W → Calls Tryf.prog 16 #[.int .u64 (m : Int), .int .u64 ((P.length : Nat) : Int)] W (RetPlanO W N pb pe el ei)))
    (HRI : Hid (∀ (W : World) (u : Value), Tab W → HashesR W u (nodeHs h P N) → Calls Tryf.prog 17 #[hashV h, .int .u64 (m : Int), .int .u64 ((P.length : Nat) : Int), u] W (RetReh W pth)))
    (HV : Hid (∀ (W : World) (u a b : Value), Below w.heap.size w W → HashesR W u pth → BytesR W a rt1 → BytesR W b rt2 → Calls Tryf.prog 18 #[hashV h, .int .u64 (m : Int), .int .u64 ((P.length : Nat) : Int), u, a, b] W fun e w' => e = .returned (.int .i64 0) ∧ Below W.heap.size W w'))
    (HT : Hid (∀ W, Below w.heap.size w W → Tab W)) :
    Calls Tryf.prog 6 #[hashV h, .int .i64 (m : Int), .slice (some ⟨g, o, none⟩) P.length cv] w fun e w' => e = .returned (.bool true) ∧ Below w.heap.size w w' := by
  have HB := Lib.hid (fun C => (Below.refl w.heap.size w).alloc (Nat.le_refl _) (.cells C 24))
  have HGN := Lib.hid (fun (G : List SeenN) (hG : G = Pl.grownL h (Pl.lv P 0) 0 P.length) => show G.length ≤ 13000 ∧ ∀ k (hk : k < N.length), hl2 h P N G k G.length N[k].1 N[k].2 = nodeHs h P (N.take (k + 1)) from by
    subst hG
    have := Pl.grownL_length h (Pl.lv P 0) 0 P.length (by omega)
    exact ⟨by omega, fun k hk => hl2_end h P _ k hk hOF (by omega)⟩)
  have e1 : IntKind.u64.wrap (m : Int) = (m : Int) := wrapN m (by omega)
  have e2 : IntKind.u64.wrap ((P.length : Nat) : Int) = ((P.length : Nat) : Int) := wrapN _ (by omega)
  have g1 : ¬ (m : Int) < 1 := by omega
  have g1' : decide (m < 1) = false := decide_eq_false (by omega)
  have g2 : ¬ ((P.length : Nat) : Int) < (m : Int) := by omega
  have g2' : decide (P.length < m) = false := decide_eq_false (by omega)
  have hn200 : ((P.length : Nat) : Int) ≤ 200 := by omega
  have HNL := Lib.hid hNl
  clear hNl hOF hm1 hm h200
  generalize hnn : P.length = n at *
  have HNN := Lib.hid hnn
  clear hnn
  obtain ⟨Ah, Bh, Ch⟩ := h
  unfold hashV at HRI HV HA1 HA2 ⊢
  simp only [] at HRI HV HA1 HA2 ⊢
  go_enter Tryf.func6, Tryf.ntmps6
  go_wp2_with fail
  refine (HFP.out _ (HB.out _)).mono ?_; rintro e w' ⟨rfl, rfl⟩
  go_wp2_with fail
  refine (HEP.out _ (HB.out _)).mono ?_; rintro e w' ⟨rfl, rfl⟩
  go_upto_region 5 with fail
  go_cut [7, 8] (fun p c wx => ∃ (g1 mH d2 mr dr mG d6 mE d7 e' : Nat) (B2 Br B6 B7 : Option Addr) (kb' : Bool), p = .pointer (some ⟨g1, 0, none⟩) ∧ c = .bool true ∧ Hid (Blk wx g1 44 #[.int .u64 0, .int .u64 (e' : Int), .slice B2 mH d2, .slice Br mr dr, .bool kb', .slice B6 mG d6, .slice B7 mE d7] ∧ BytesR wx (.slice Br mr dr) rt1 ∧ Below w.heap.size w wx ∧ Blk wx w.heap.size 24 #[.int .u32 (Ah : Int), .int .u32 (Bh : Int), .int .u32 (Ch : Int)]))
  case first =>
    have q1 := (Blk.new w 24 #[.int .u32 (Ah : Int), .int .u32 (Bh : Int), .int .u32 (Ch : Int)]).drew
    have S0 : S1 w (.int .u32 (Ah : Int)) (.int .u32 (Bh : Int)) (.int .u32 (Ch : Int)) (w.alloc (.cells #[.int .u32 (Ah : Int), .int .u32 (Bh : Int), .int .u32 (Ch : Int)] 24)).drew := ⟨q1.cell 0, q1.cell 1, q1.cell 2, (HB.out _).drew⟩
    refine wp_region_E (fun w' => S1 w (.int .u32 (Ah : Int)) (.int .u32 (Bh : Int)) (.int .u32 (Ch : Int)) w') [] (by kernel_rfl) S0 (fun hHeld => ?_)
    clear S0
    refine wpAnyE_take 0 [] (some 37) (v := .agg #[.int .u32 (Ah : Int), .int .u32 (Bh : Int), .int .u32 (Ch : Int)]) rfl rfl (by kernel_rfl) (by kernel_rfl) (by kernel_rfl) (by kernel_rfl) (by kernel_rfl) (by kernel_rfl) (fun _ _ _ h => h) (by rfl) hHeld ?_ ?_
    · intro W hS
      obtain ⟨_, _, _, _⟩ := hS
      go_simp
    simp only [Act.put, List.setIfInBounds_toArray, List.set_cons_zero, List.set_cons_succ]
    refine wpAnyE_take 1 [] (some 38) (v := .slice (some ⟨g, o, none⟩) n cv) rfl rfl (by kernel_rfl) (by kernel_rfl) (by kernel_rfl) (by kernel_rfl) (by kernel_rfl) (by kernel_rfl) (fun _ _ _ h => h) (by rfl) hHeld ?_ ?_
    · intro W hS
      obtain ⟨_, _, _, _⟩ := hS
      go_simp
    simp only [Act.put, List.setIfInBounds_toArray, List.set_cons_zero, List.set_cons_succ]
    refine wpAnyE_take 2 [] (some 39) (v := .int .i64 (m : Int)) rfl rfl (by kernel_rfl) (by kernel_rfl) (by kernel_rfl) (by kernel_rfl) (by kernel_rfl) (by kernel_rfl) (fun _ _ _ h => h) (by rfl) hHeld ?_ ?_
    · intro W hS
      obtain ⟨_, _, _, _⟩ := hS
      go_simp
    simp only [Act.put, List.setIfInBounds_toArray, List.set_cons_zero, List.set_cons_succ]
    refine wpAnyE_take 3 [] (some 40) (v := .slice (some ⟨g, o, none⟩) m cv) rfl rfl (by kernel_rfl) (by kernel_rfl) (by kernel_rfl) (by kernel_rfl) (by kernel_rfl) (by kernel_rfl) (fun _ _ _ h => h) (by rfl) hHeld ?_ ?_
    · intro W hS
      obtain ⟨_, _, _, _⟩ := hS
      go_simp
    simp only [Act.put, List.setIfInBounds_toArray, List.set_cons_zero, List.set_cons_succ]
    refine wpAnyE_two 4 8 (by kernel_rfl) rfl rfl (fun K hK => ?_) (fun K hK => ?_)
    · skip
      go_simp
      refine (HA1.out _ hHeld.2.2.2).mono ?_; rintro r w1 ⟨B2, Br, B6, B7, d2, mr, dr, d6, d7, mH, mG, mE, e', kb', H', R1, G', E', rfl, HEQ', HK', hb1⟩
      obtain rfl : R1 = rt1 := by
        have h1 := HEQ'.out.2.2.2.1
        rw [HEQ'.out.2.2.1] at h1
        rw [h1, HR1.out]
      have hHeld : S1 w (.int .u32 (Ah : Int)) (.int .u32 (Bh : Int)) (.int .u32 (Ch : Int)) w1 := keepS1 hb1 hHeld
      have hBw1 := hHeld.2.2.2
      have K1 := q1.below' hb1
      refine hK.out _ _ (fun _ => hHeld) ?_
      clear hK K
      try simp only [Act.put, List.setIfInBounds_toArray, List.set_cons_zero, List.set_cons_succ]
      refine wpAnyE_take 5 [] (some 36) (v := .tuple #[.agg #[.int .u64 0, .int .u64 (e' : Int), .slice B2 mH d2, .slice Br mr dr, .bool kb', .slice B6 mG d6, .slice B7 mE d7], .bool true]) rfl rfl (by kernel_rfl) (by kernel_rfl) (by kernel_rfl) (by kernel_rfl) (by kernel_rfl) (by kernel_rfl) (fun _ _ _ h => h) (by rfl) hHeld ?_ ?_
      · intro W hS
        obtain ⟨_, _, _, _⟩ := hS
        go_simp
      simp only [Act.put, List.setIfInBounds_toArray, List.set_cons_zero, List.set_cons_succ]
      refine wpAnyE_take 6 [] (some 42) (v := .agg #[.int .u64 0, .int .u64 (e' : Int), .slice B2 mH d2, .slice Br mr dr, .bool kb', .slice B6 mG d6, .slice B7 mE d7]) rfl rfl (by kernel_rfl) (by kernel_rfl) (by kernel_rfl) (by kernel_rfl) (by kernel_rfl) (by kernel_rfl) (fun _ _ _ h => h) (by rfl) hHeld ?_ ?_
      · intro W hS
        obtain ⟨_, _, _, _⟩ := hS
        go_simp
      simp only [Act.put, List.setIfInBounds_toArray, List.set_cons_zero, List.set_cons_succ]
      refine wpAnyE_take 7 [] (some 43) (v := .bool true) rfl rfl (by kernel_rfl) (by kernel_rfl) (by kernel_rfl) (by kernel_rfl) (by kernel_rfl) (by kernel_rfl) (fun _ _ _ h => h) (by rfl) hHeld ?_ ?_
      · intro W hS
        obtain ⟨_, _, _, _⟩ := hS
        go_simp
      simp only [Act.put, List.setIfInBounds_toArray, List.set_cons_zero, List.set_cons_succ]
      refine wpAnyE_one 8 (by kernel_rfl) rfl (fun K hK => ?_)
      go_simp
      have BA : Below w1.heap.size w1 (w1.alloc (.cells #[.int .u64 0, .int .u64 0, .slice none 0 0, .slice none 0 0, .bool false, .slice none 0 0, .slice none 0 0] 44)) := (Below.refl _ _).alloc (Nat.le_refl _) _
      have hHeld : S1 w (.int .u32 (Ah : Int)) (.int .u32 (Bh : Int)) (.int .u32 (Ch : Int)) (w1.alloc (.cells #[.int .u64 0, .int .u64 0, .slice none 0 0, .slice none 0 0, .bool false, .slice none 0 0, .slice none 0 0] 44)) := keepS1 BA hHeld
      refine hK.out _ _ (fun _ => hHeld) ?_
      clear hK K
      try simp only [Act.put, List.setIfInBounds_toArray, List.set_cons_zero, List.set_cons_succ]
      refine wpAnyE_one 9 (by kernel_rfl) rfl (fun K hK => ?_)
      go_simp
      have B5 : Below w1.heap.size w1 (w1.alloc (.cells #[.int .u64 0, .int .u64 (e' : Int), .slice B2 mH d2, .slice Br mr dr, .bool kb', .slice B6 mG d6, .slice B7 mE d7] 44)) := (Below.refl _ _).alloc (Nat.le_refl _) _
      have KF : Blk (w1.alloc (.cells #[.int .u64 0, .int .u64 (e' : Int), .slice B2 mH d2, .slice Br mr dr, .bool kb', .slice B6 mG d6, .slice B7 mE d7] 44)) w1.heap.size 44 #[.int .u64 0, .int .u64 (e' : Int), .slice B2 mH d2, .slice Br mr dr, .bool kb', .slice B6 mG d6, .slice B7 mE d7] := Blk.new _ _ _
      have SF : S1 w (.int .u32 (Ah : Int)) (.int .u32 (Bh : Int)) (.int .u32 (Ch : Int)) (w1.alloc (.cells #[.int .u64 0, .int .u64 (e' : Int), .slice B2 mH d2, .slice Br mr dr, .bool kb', .slice B6 mG d6, .slice B7 mE d7] 44)) := ⟨(K1.alloc _).cell 0, (K1.alloc _).cell 1, (K1.alloc _).cell 2, hBw1.alloc hBw1.size _⟩
      have RF := HK'.out.2.1.1.below B5
      have HF := K1.alloc (.cells #[.int .u64 0, .int .u64 (e' : Int), .slice B2 mH d2, .slice Br mr dr, .bool kb', .slice B6 mG d6, .slice B7 mE d7] 44)
      refine hK.out _ _ (fun _ => SF) ?_
      clear hK K
      try simp only [Act.put, List.setIfInBounds_toArray, List.set_cons_zero, List.set_cons_succ]
      refine wpAnyE_one 10 (by kernel_rfl) rfl (fun K hK => ?_)
      go_simp
      refine hK.out _ _ (fun _ => SF) ?_
      clear hK K
      refine wpAnyE_done (by kernel_rfl) ?_ _
      go_wp2_with fail
      go_meet
      exact ⟨_, mH, d2, mr, dr, mG, d6, mE, d7, e', B2, Br, B6, B7, kb', rfl, rfl, Lib.hid ⟨KF, RF, SF.2.2.2, HF⟩⟩
    · skip
      go_simp
      have BA : Below (w.alloc (.cells #[.int .u32 (Ah : Int), .int .u32 (Bh : Int), .int .u32 (Ch : Int)] 24)).drew.heap.size (w.alloc (.cells #[.int .u32 (Ah : Int), .int .u32 (Bh : Int), .int .u32 (Ch : Int)] 24)).drew ((w.alloc (.cells #[.int .u32 (Ah : Int), .int .u32 (Bh : Int), .int .u32 (Ch : Int)] 24)).drew.alloc (.cells #[.int .u64 0, .int .u64 0, .slice none 0 0, .slice none 0 0, .bool false, .slice none 0 0, .slice none 0 0] 44)) := (Below.refl _ _).alloc (Nat.le_refl _) _
      have hHeld : S1 w (.int .u32 (Ah : Int)) (.int .u32 (Bh : Int)) (.int .u32 (Ch : Int)) ((w.alloc (.cells #[.int .u32 (Ah : Int), .int .u32 (Bh : Int), .int .u32 (Ch : Int)] 24)).drew.alloc (.cells #[.int .u64 0, .int .u64 0, .slice none 0 0, .slice none 0 0, .bool false, .slice none 0 0, .slice none 0 0] 44)) := keepS1 BA hHeld
      refine hK.out _ _ (fun _ => hHeld) ?_
      clear hK K
      try simp only [Act.put, List.setIfInBounds_toArray, List.set_cons_zero, List.set_cons_succ]
      refine wpAnyE_one 4 (by kernel_rfl) rfl (fun K hK => ?_)
      go_simp
      refine (HA1.out _ hHeld.2.2.2).mono ?_; rintro r w1 ⟨B2, Br, B6, B7, d2, mr, dr, d6, d7, mH, mG, mE, e', kb', H', R1, G', E', rfl, HEQ', HK', hb1⟩
      obtain rfl : R1 = rt1 := by
        have h1 := HEQ'.out.2.2.2.1
        rw [HEQ'.out.2.2.1] at h1
        rw [h1, HR1.out]
      have hHeld : S1 w (.int .u32 (Ah : Int)) (.int .u32 (Bh : Int)) (.int .u32 (Ch : Int)) w1 := keepS1 hb1 hHeld
      have K1 := (q1.alloc (.cells #[.int .u64 0, .int .u64 0, .slice none 0 0, .slice none 0 0, .bool false, .slice none 0 0, .slice none 0 0] 44)).below' hb1
      refine hK.out _ _ (fun _ => hHeld) ?_
      clear hK K
      try simp only [Act.put, List.setIfInBounds_toArray, List.set_cons_zero, List.set_cons_succ]
      refine wpAnyE_take 5 [] (some 36) (v := .tuple #[.agg #[.int .u64 0, .int .u64 (e' : Int), .slice B2 mH d2, .slice Br mr dr, .bool kb', .slice B6 mG d6, .slice B7 mE d7], .bool true]) rfl rfl (by kernel_rfl) (by kernel_rfl) (by kernel_rfl) (by kernel_rfl) (by kernel_rfl) (by kernel_rfl) (fun _ _ _ h => h) (by rfl) hHeld ?_ ?_
      · intro W hS
        obtain ⟨_, _, _, _⟩ := hS
        go_simp
      simp only [Act.put, List.setIfInBounds_toArray, List.set_cons_zero, List.set_cons_succ]
      refine wpAnyE_take 6 [] (some 42) (v := .agg #[.int .u64 0, .int .u64 (e' : Int), .slice B2 mH d2, .slice Br mr dr, .bool kb', .slice B6 mG d6, .slice B7 mE d7]) rfl rfl (by kernel_rfl) (by kernel_rfl) (by kernel_rfl) (by kernel_rfl) (by kernel_rfl) (by kernel_rfl) (fun _ _ _ h => h) (by rfl) hHeld ?_ ?_
      · intro W hS
        obtain ⟨_, _, _, _⟩ := hS
        go_simp
      simp only [Act.put, List.setIfInBounds_toArray, List.set_cons_zero, List.set_cons_succ]
      refine wpAnyE_take 7 [] (some 43) (v := .bool true) rfl rfl (by kernel_rfl) (by kernel_rfl) (by kernel_rfl) (by kernel_rfl) (by kernel_rfl) (by kernel_rfl) (fun _ _ _ h => h) (by rfl) hHeld ?_ ?_
      · intro W hS
        obtain ⟨_, _, _, _⟩ := hS
        go_simp
      simp only [Act.put, List.setIfInBounds_toArray, List.set_cons_zero, List.set_cons_succ]
      have hZ : Blk w1 (w.heap.size + 1) 44 #[.int .u64 0, .int .u64 0, .slice none 0 0, .slice none 0 0, .bool false, .slice none 0 0, .slice none 0 0] := (Blk.new' (w.alloc (.cells #[.int .u32 (Ah : Int), .int .u32 (Bh : Int), .int .u32 (Ch : Int)] 24)).drew 44 #[.int .u64 0, .int .u64 0, .slice none 0 0, .slice none 0 0, .bool false, .slice none 0 0, .slice none 0 0] (by simp)).below' hb1
      obtain ⟨y0, y1, y2, y3, y4, y5, y6, f0, f1, f2, f3, f4, f5, f6⟩ := hZ.seven
      refine wpAnyE_one 9 (by kernel_rfl) rfl (fun K hK => ?_)
      go_simp
      obtain ⟨KF, q2, q3⟩ := set7 hZ (.int .u64 0) (.int .u64 (e' : Int)) (.slice B2 mH d2) (.slice Br mr dr) (.bool kb') (.slice B6 mG d6) (.slice B7 mE d7)
      have HF := q2.blk K1 (by decide)
      have SF : S1 w (.int .u32 (Ah : Int)) (.int .u32 (Bh : Int)) (.int .u32 (Ch : Int)) (((((((w1.setCell ⟨w.heap.size + 1, 0, none⟩ (.int .u64 0)).setCell ⟨w.heap.size + 1, 1, none⟩ (.int .u64 (e' : Int))).setCell ⟨w.heap.size + 1, 2, none⟩ (.slice B2 mH d2)).setCell ⟨w.heap.size + 1, 3, none⟩ (.slice Br mr dr)).setCell ⟨w.heap.size + 1, 4, none⟩ (.bool kb')).setCell ⟨w.heap.size + 1, 5, none⟩ (.slice B6 mG d6)).setCell ⟨w.heap.size + 1, 6, none⟩ (.slice B7 mE d7)) := ⟨HF.cell 0, HF.cell 1, HF.cell 2, hHeld.2.2.2.trans (q3.mono (by omega))⟩
      have RF := (HK'.out.2.1.keep q2 (by decide)).1
      clear y0 y1 y2 y3 y4 y5 y6 f0 f1 f2 f3 f4 f5 f6
      refine hK.out _ _ (fun _ => SF) ?_
      clear hK K
      try simp only [Act.put, List.setIfInBounds_toArray, List.set_cons_zero, List.set_cons_succ]
      refine wpAnyE_one 10 (by kernel_rfl) rfl (fun K hK => ?_)
      go_simp
      refine hK.out _ _ (fun _ => SF) ?_
      clear hK K
      refine wpAnyE_done (by kernel_rfl) ?_ _
      go_wp2_with fail
      go_meet
      exact ⟨_, mH, d2, mr, dr, mG, d6, mE, d7, e', B2, Br, B6, B7, kb', rfl, rfl, Lib.hid ⟨KF, RF, SF.2.2.2, HF⟩⟩
  case rest =>
    obtain ⟨g1, mH, d2, mr, dr, mG, d6, mE, d7, e', B2, Br, B6, B7, kb', rfl, rfl, HX⟩ := hcut
    obtain ⟨w2, rfl⟩ : ∃ W : World, W = wc := ⟨_, rfl⟩
    have HKR1 := Lib.hid HX.out.1
    have HBR1 := Lib.hid HX.out.2.1
    have HB2 := Lib.hid HX.out.2.2.1
    have HKH2 := Lib.hid HX.out.2.2.2
    clear HX HR1
    have x0 := HKH2.out.cell 0
    have x1 := HKH2.out.cell 1
    have x2 := HKH2.out.cell 2
    go_wp2_with fail
    refine (HA2.out _ HB2.out).mono ?_; rintro r w3 ⟨A2, Ar, A6, A7, c2, nr, cr, c6, c7, nH, nG, nE, e, kb, H, R, G, E, rfl, HEQ, HK, hb3⟩
    have HKH : Hid (Blk w3 w.heap.size 24 #[.int .u32 (Ah : Int), .int .u32 (Bh : Int), .int .u32 (Ch : Int)]) := Lib.hid (HKH2.out.below' hb3)
    have HKR1b := Lib.hid (HKR1.out.below' hb3)
    have HBR1b := Lib.hid (HBR1.out.below hb3)
    have HB3 := Lib.hid (HB2.out.trans (hb3.mono HB2.out.size))
    clear hb3 HKH2 HKR1 HBR1 HB2 x0 x1 x2
    obtain rfl : e = n := by rw [HEQ.out.1]; exact Nat.zero_add _
    obtain rfl : R = rt2 := by
      have h1 := HEQ.out.2.2.2.1
      rw [HEQ.out.2.2.1] at h1
      rw [h1, HR2.out]
    clear HR2
    obtain ⟨hGl, hGe⟩ := HGN.out G HEQ.out.2.2.2.2.1
    obtain rfl : nG = G.length := HEQ.out.2.2.2.2.2.2.2.2.1
    have HGE := Lib.hid hGe
    have HGL := Lib.hid hGl
    clear hGe hGl HGN
    have BA : Below w3.heap.size w3 (w3.alloc (.cells #[.int .u64 0, .int .u64 (e : Int), .slice A2 nH c2, .slice Ar nr cr, .bool kb, .slice A6 G.length c6, .slice A7 nE c7] 44)) := (Below.refl _ _).alloc (Nat.le_refl _) _
    have HKR := Lib.hid (Blk.new w3 44 #[.int .u64 0, .int .u64 (e : Int), .slice A2 nH c2, .slice Ar nr cr, .bool kb, .slice A6 G.length c6, .slice A7 nE c7])
    have HKH4 := Lib.hid (HKH.out.below' BA)
    have HSG4 := Lib.hid (HK.out.2.2.1.below BA)
    have HBR4 := Lib.hid (HK.out.2.1.1.below BA)
    have HB4 := Lib.hid (HB3.out.trans (BA.mono HB3.out.size))
    have HKR1c := Lib.hid (HKR1b.out.below' BA)
    have HBR1c := Lib.hid (HBR1b.out.below BA)
    clear BA HK HKH HKR1b HBR1b
    go_wp2_with fail
    refine (HIP.out _ (HT.out _ HB4.out)).mono ?_; rintro r w4 ⟨v1, rfl, hv1, hb4⟩
    obtain ⟨An, cn, rfl, xx1, xx2⟩ := id hv1
    clear xx1 xx2
    have KR4 := Lib.hid (HKR.out.below' hb4)
    have KH4 := Lib.hid (HKH4.out.below' hb4)
    have SG4 := Lib.hid (HSG4.out.below hb4)
    have BR4 := Lib.hid (HBR4.out.below hb4)
    have B4 := Lib.hid (HB4.out.trans (hb4.mono HB4.out.size))
    have V4 := Lib.hid hv1
    have HKR1d := Lib.hid (HKR1c.out.below' hb4)
    have HBR1d := Lib.hid (HBR1c.out.below hb4)
    clear HKR HKH4 HSG4 HBR4 HB4 hb4 hv1 HIP HKR1c HBR1c
    have BP : Below w4.heap.size w4 (w4.alloc (.cells #[.slice An N.length cn, .int .u64 (el : Int), .int .u64 (ei : Int), .int .i64 (pb : Int), .int .i64 (pe : Int)] 36)) := (Below.refl _ _).alloc (Nat.le_refl _) _
    have HKP := Lib.hid (Blk.new w4 36 #[.slice An N.length cn, .int .u64 (el : Int), .int .u64 (ei : Int), .int .i64 (pb : Int), .int .i64 (pe : Int)])
    have HKR5 := Lib.hid (KR4.out.below' BP)
    have HKH5 := Lib.hid (KH4.out.below' BP)
    have HSG5 := Lib.hid (SG4.out.below BP)
    have HBR5 := Lib.hid (BR4.out.below BP)
    have HB5 := Lib.hid (B4.out.trans (BP.mono B4.out.size))
    have HV5 := Lib.hid (V4.out.below BP)
    have HKR1e := Lib.hid (HKR1d.out.below' BP)
    have HBR1e := Lib.hid (HBR1d.out.below BP)
    clear KR4 KH4 SG4 BR4 B4 V4 BP HKR1d HBR1d
    go_wp2_with fail
    have HWZ := Lib.hid (World.size_alloc w4 (.cells #[.slice An N.length cn, .int .u64 (el : Int), .int .u64 (ei : Int), .int .i64 (pb : Int), .int .i64 (pe : Int)] 36))
    generalize w4.alloc (.cells #[.slice An N.length cn, .int .u64 (el : Int), .int .u64 (ei : Int), .int .i64 (pb : Int), .int .i64 (pe : Int)] 36) = W0 at *
    have hG13 : (G.length : Int) ≤ 13000 := by have := HGL.out; omega
    have hN10 : (N.length : Int) ≤ 1000 := by have := HNL.out; omega
    go_loopw [13, 15, 17, 63, 70] (fun ov _ _ kv _ wr => ∃ (k n1 c1 : Nat) (A1 : Option Addr), k ≤ N.length ∧ kv = .int .i64 (k : Int) ∧ ov = .slice A1 n1 c1 ∧ Hid (Built wr W0.heap.size (.slice A1 n1 c1) (nodeHs ⟨Ah, Bh, Ch⟩ P (N.take k)) ∧ Below W0.heap.size W0 wr)) (fun _ _ _ kv _ _ => N.length - (intOf kv).toNat)
    case atStart =>
      have ho := World.ownsRow_lit (base := W0.heap.size) (e := 26) (size := 1) W0 #[] 0 (Nat.le_refl _) (by unfold maxLen; omega) rfl
      exact ⟨0, 0, 0, some ⟨W0.heap.size, 0, none⟩, Nat.zero_le _, rfl, by rw [HWZ.out], Lib.hid ⟨by simpa [nodeHs] using Built.nil ho, (Below.refl _ _).alloc (Nat.le_refl _) _⟩⟩
    case round =>
      obtain ⟨k, n1, c1, A1, hk, rfl, rfl, HBU⟩ := hrel
      by_cases hkl : k < N.length
      · obtain ⟨A', cap', e', hc', hat'⟩ := HV5.out
        injection e' with e'1 e'2 e'3
        subst e'1 e'3
        obtain ⟨gN, oN, rfl, hcN⟩ := hat' (by omega)
        obtain ⟨d0, d1⟩ := hcN k hkl
        have HLE := Lib.hid (HGE.out k hkl)
        have HLS := Lib.hid (hl2_start ⟨Ah, Bh, Ch⟩ P N G k N[k].1 N[k].2)
        have BK := HBU.out.2
        have d0 := (BK.cell (World.block_lt_of_cell? W0 _ d0)).trans d0
        have d1 := (BK.cell (World.block_lt_of_cell? W0 _ d1)).trans d1
        clear e'2 hc' hat' hcN
        generalize N[k].1 = lk at *
        generalize N[k].2 = ik at *
        have BN := (Below.refl wr.heap.size wr).alloc (Nat.le_refl _) (.cells #[.int .u64 (lk : Int), .int .u64 (ik : Int)] 34)
        have KN := Lib.hid (Blk.new wr 34 #[.int .u64 (lk : Int), .int .u64 (ik : Int)])
        have BW := BK.trans (BN.mono BK.size)
        have k5 := (HKR5.out.below' BW).cell 5
        have HBW := Lib.hid BW
        have HBL := Lib.hid (HBU.out.1.below BN)
        have hk1 : (k : Int) < (N.length : Int) := by omega
        have hk0 : (0 : Int) ≤ (k : Int) := by omega
        clear BK BN BW HBU
        go_wp2_with fail
        obtain ⟨wo, rfl⟩ : ∃ wo : World, wo = wr := ⟨_, rfl⟩
        generalize hgn : wo.heap.size = gn at *
        generalize wo.alloc (.cells #[.int .u64 (lk : Int), .int .u64 (ik : Int)] 34) = W1 at *
        clear hgn d0 d1 k5
        go_loopw [13, 17, 70] (fun ov _ jv wi => ∃ (j n2 c2 : Nat) (A2 : Option Addr), j ≤ G.length ∧ jv = .int .i64 (j : Int) ∧ ov = .slice A2 n2 c2 ∧ Hid (Built wi W0.heap.size (.slice A2 n2 c2) (hl2 ⟨Ah, Bh, Ch⟩ P N G k j lk ik) ∧ Below W0.heap.size W0 wi ∧ Blk wi gn 34 #[.int .u64 (lk : Int), .int .u64 (ik : Int)])) (fun _ _ jv _ => G.length - (intOf jv).toNat)
        case atStart => exact ⟨0, n1, c1, A1, Nat.zero_le _, rfl, rfl, Lib.hid ⟨by rw [HLS.out]; exact HBL.out, HBW.out, KN.out⟩⟩
        case round =>
          obtain ⟨j, n2, c2', A2', hj, rfl, rfl, HBU⟩ := hrel
          by_cases hjl : j < G.length
          · obtain ⟨gS, cS, eA, hcS, hat⟩ := HSG5.out.at (by omega)
            injection eA with eA1 eA2 eA3
            subst eA1 eA3
            clear eA2
            obtain ⟨uj, d0, d1, d2, b2⟩ := hat j hjl
            obtain ⟨Au, nu, cu, rfl⟩ : ∃ A n c, uj = .slice A n c := by obtain ⟨A, c, e, _⟩ := b2.1; exact ⟨A, _, c, e⟩
            obtain ⟨hBu, hBe, hKn⟩ := HBU.out
            have d0 := (hBe.cell (World.block_lt_of_cell? W0 _ d0)).trans d0
            have d1 := (hBe.cell (World.block_lt_of_cell? W0 _ d1)).trans d1
            have d2 := (hBe.cell (World.block_lt_of_cell? W0 _ d2)).trans d2
            have HYE := Lib.hid (fun hh => hl2_yes ⟨Ah, Bh, Ch⟩ P N G k j lk ik hjl hh)
            have HNO := Lib.hid (fun hh => hl2_no ⟨Ah, Bh, Ch⟩ P N G k j lk ik hjl hh)
            have HLN := Lib.hid (hl2_len ⟨Ah, Bh, Ch⟩ P N G k j lk ik)
            clear hat
            generalize G[j].1 = lj at *
            generalize G[j].2.1 = ij at *
            generalize G[j].2.2 = hs at *
            have BN : Below wr.heap.size wr (wr.alloc (.cells #[.int .u64 (lj : Int), .int .u64 (ij : Int), .slice Au nu cu] 50)) := (Below.refl _ _).alloc (Nat.le_refl _) _
            have hKn2 := hKn.below' BN
            have y0 := hKn2.cell 0
            have y1 := hKn2.cell 1
            have HBU2 := Lib.hid (show Built _ _ _ _ ∧ Below _ _ _ ∧ Blk _ _ _ _ ∧ BytesT _ _ _ from ⟨hBu.below BN, hBe.trans (BN.mono hBe.size), hKn2, (b2.below hBe).below BN⟩)
            have HWS := Lib.hid hBe.size
            have hj1 : (j : Int) < (G.length : Int) := by omega
            have hj0 : (0 : Int) ≤ (j : Int) := by omega
            clear hBu hBe hKn hKn2 BN b2 HBU
            by_cases h1 : lj = lk
            · subst h1
              by_cases h2 : ij = ik
              · subst h2
                have HY := Lib.hid (HYE.out ⟨rfl, rfl⟩)
                clear HYE HNO
                go_wp2_with (first
                  | (at_builtin
                     refine wpList_append_builtT rfl (.tmp 78) (.tmp 81) rfl W0.heap.size (.slice A2' n2 c2') _ (HBU2.out.1.below ((Below.refl _ _).alloc (Nat.le_refl _) (.cells #[.slice Au nu cu] 26))) rfl (wr.heap.size + 1) (.slice Au nu cu) hs rfl (by simp) (HBU2.out.2.2.2.below ((Below.refl _ _).alloc (Nat.le_refl _) (.cells #[.slice Au nu cu] 26))) (by have := HLN.out; have := HGL.out; have := HNL.out; omega) (by have := HWS.out; simp; omega) ?_
                     intro A5 n5 c5 w5 hB5 hb5 hk5)
                  | fail)
                have hfin : Built w5 W0.heap.size (.slice A5 n5 c5) (hl2 ⟨Ah, Bh, Ch⟩ P N G k (j + 1) lj ij) ∧ Below W0.heap.size W0 w5 ∧ Blk w5 gn 34 #[.int .u64 (lj : Int), .int .u64 (ij : Int)] :=
                  ⟨by rw [HY.out]; exact hB5, (HBU2.out.2.1.alloc HBU2.out.2.1.size _).trans hb5, hk5.blk (HBU2.out.2.2.1.alloc _) (by decide)⟩
                clear hB5 hb5 hk5
                go_roundw
                case rel => exact ⟨j + 1, n5, c5, A5, by omega, by go_num, rfl, Lib.hid hfin⟩
                case measure => simp [intOf] <;> omega
              · have hne : ¬ ((ij : Int) = (ik : Int)) := by omega
                have HN0 := Lib.hid (HNO.out fun hh => h2 hh.2)
                clear HYE HNO h2
                go_wp2_with fail
                go_roundw
                case rel => exact ⟨j + 1, n2, c2', A2', by omega, by go_num, rfl, Lib.hid ⟨by rw [HN0.out]; exact HBU2.out.1, HBU2.out.2.1, HBU2.out.2.2.1⟩⟩
                case measure => simp [intOf] <;> omega
            · have hne : ¬ ((lj : Int) = (lk : Int)) := by omega
              have HN0 := Lib.hid (HNO.out fun hh => h1 hh.1)
              clear HYE HNO h1
              go_wp2_with fail
              go_roundw
              case rel => exact ⟨j + 1, n2, c2', A2', by omega, by go_num, rfl, Lib.hid ⟨by rw [HN0.out]; exact HBU2.out.1, HBU2.out.2.1, HBU2.out.2.2.1⟩⟩
              case measure => simp [intOf] <;> omega
          · have hj1 : ¬ (j : Int) < (G.length : Int) := by omega
            obtain rfl : j = G.length := by omega
            go_wp2_with fail
            go_roundw
            case rel => exact ⟨k + 1, n2, c2', A2', by omega, by go_num, rfl, Lib.hid ⟨by rw [← HLE.out]; exact HBU.out.1, HBU.out.2.1⟩⟩
            case measure => simp [intOf] <;> omega
      · have hk1 : ¬ (k : Int) < (N.length : Int) := by omega
        obtain rfl : k = N.length := by omega
        obtain ⟨hBu, hBe⟩ := HBU.out
        rw [List.take_length] at hBu
        have BW := HB5.out.trans (hBe.mono HB5.out.size)
        have HHS := Lib.hid hBu.hashes
        have KH := Lib.hid (HKH5.out.below' hBe)
        have KR := Lib.hid (HKR5.out.below' hBe)
        have BR := Lib.hid (HBR5.out.below hBe)
        have KR1 := Lib.hid (HKR1e.out.below' hBe)
        have BR1 := Lib.hid (HBR1e.out.below hBe)
        have HBW := Lib.hid BW
        have hh0 := KH.out.cell 0
        have hh1 := KH.out.cell 1
        have hh2 := KH.out.cell 2
        clear hBu hBe BW hk hkl HBU
        go_wp2_with fail
        refine (HRI.out _ _ (HT.out _ HBW.out) HHS.out).mono ?_; rintro r w7 ⟨v3, rfl, hv3, hb7⟩
        obtain ⟨A3, c3', rfl, xx⟩ := id hv3
        clear xx
        have BD := hb7.drew
        have B7 := HBW.out.trans (BD.mono HBW.out.size)
        have KH7 := KH.out.below' BD
        have KR7 := KR.out.below' hb7
        have KR17 := KR1.out.below' hb7
        have KH8 := KH.out.below' hb7
        have B8 := HBW.out.trans (hb7.mono HBW.out.size)
        have c0 := KH8.cell 0
        have c1 := KH8.cell 1
        have c2' := KH8.cell 2
        have c3 := KR17.cell 3
        have c4 := KR7.cell 3
        have HBR7 := Lib.hid (show BytesR _ _ _ ∧ BytesR _ _ _ ∧ HashesR _ _ _ ∧ Below _ _ _ from ⟨BR1.out.below hb7, BR.out.below hb7, hv3, B8⟩)
        generalize pth.length = np at *
        clear hh0 hh1 hh2 hv3 hb7 BD B7 KH7 KR7 KR17 KH8 B8
        go_wp2_with fail
        refine (HV.out _ _ _ _ HBR7.out.2.2.2 HBR7.out.2.2.1 HBR7.out.1 HBR7.out.2.1).mono ?_; rintro e9 w' ⟨rfl, hb⟩
        have hfin := HBR7.out.2.2.2.trans (hb.mono HBR7.out.2.2.2.size)
        clear hb c0 c1 c2' c3 c4
        go_wp2_with fail
        go_ret
        exact ⟨by first | rfl | (simp <;> omega), hfin⟩
set_option maxHeartbeats 2000000 in
theorem main (F : Stop.Interp) (h : Pl.HF) (ok : h.ok) (idx : Int) (Av : Option Addr) (cv : Nat) (P : List (List Nat)) (w : World) (hF : F.answers w.tape) (hT : Tab w) (hH : Handle w) (hv : HashesR w (.slice Av P.length cv) P) (_gfP : Fits P) (HFP : Hid (∀ W, Below w.heap.size w W → Calls Tryf.prog 7 #[.slice Av P.length cv] W fun e w' => e = .returned (.bool true) ∧ W = w')) (geP : IsLeaves P) (HEP : Hid (∀ W, Below w.heap.size w W → Calls Tryf.prog 12 #[.slice Av P.length cv] W fun e w' => e = .returned (.bool true) ∧ W = w')) (h0 : 1 ≤ idx) (h1 : idx ≤ (P.length : Int)) :
    Calls Tryf.prog 6 #[hashV h, .int .i64 (idx : Int), .slice Av P.length cv] w fun e w' => e = .returned (.bool true) ∧ Below w.heap.size w w' := by
  obtain ⟨m, rfl⟩ := Int.eq_ofNat_of_zero_le (show (0 : Int) ≤ idx by omega)
  have hm1 : 1 ≤ m := by omega
  have hm : m ≤ P.length := by omega
  obtain ⟨l1, l2, l3⟩ := geP
  obtain ⟨A', cap', e', hcap, hby, hat⟩ := id hv
  injection e' with e1 e2 e3
  subst e1 e3
  obtain ⟨g, o, rfl, hat2⟩ := hat (by omega)
  clear hat hat2 e2 hcap hby
  obtain ⟨hh, r1⟩ := head_slice hv m hm (by omega)
  have ht : (P.take m).length = m := by simp; omega
  have HA1 := Lib.hid (fun W (hW : Below w.heap.size w W) => append_d F h ok 0 (.slice (some ⟨g, o, none⟩) m cv) (P.take m) W (ans_below hF hW) (hh.below hW) (fun x hx => l1 x (List.mem_of_mem_take hx)) (by omega) (by omega) (hT.below hW))
  rw [ht] at HA1
  have HA2 := Lib.hid (fun W (hW : Below w.heap.size w W) => append_d F h ok 0 (.slice (some ⟨g, o, none⟩) P.length cv) P W (ans_below hF hW) (hv.below hW) l1 (by omega) (by omega) (hT.below hW))
  have HR1 := rootAt_mth h (P.take m) (by omega) (by omega)
  rw [ht] at HR1
  have HR2 := rootAt_mth h P (by omega) (by omega)
  have HV : Hid (∀ (W : World) (u a b : Value), Below w.heap.size w W → HashesR W u (Pl.proofL h m P true) → BytesR W a (Pl.mth h (P.take m)) → BytesR W b (Pl.mth h P) → Calls Tryf.prog 18 #[hashV h, .int .u64 (m : Int), .int .u64 ((P.length : Nat) : Int), u, a, b] W fun e w' => e = .returned (.int .i64 0) ∧ Below W.heap.size W w') := Lib.hid (fun W u a b hb hu ha hb2 => by
    have := verC_any F h ok m P.length u a b _ _ _ W (ans_below hF hb) (hT.below hb) ha hu hb2 (proof_fits h P m true hm1 hm l3 l1) (hH.below hb) hm1 hm (by omega)
    rw [kV_proof h P m hm1 hm] at this
    exact this)
  have HT := Lib.hid (fun (W : World) (hb : Below w.heap.size w W) => hT.below hb)
  rcases Nat.lt_or_ge m P.length with hlt | hge
  · have hOF := cons_of P m (by omega) hlt (by omega)
    have hpl := cons_len (s := m) (t := P.length) (by omega) hlt (by omega)
    have hLaw := cons_reh h P m (by omega) hlt (by omega)
    refine core h m g o cv P (Pl.proofL h m P true) (Pl.consL m P.length) (Pl.consB m P.length) (Pl.consE m P.length) (Pl.cl m + Pl.up (Pl.cl m) (Pl.ci m) P.length) (Pl.ephI (Pl.cl m) (Pl.ci m) P.length) _ _ w HFP HEP hm1 hm l3 hpl hOF r1 HA1 HA2 (Lib.hid HR1) (Lib.hid HR2)
      (Lib.hid (fun W hT => implCons m P.length (by omega) hlt (by omega) W hT)) (Lib.hid (fun W u hT hu => ?_)) HV HT
    have := rehCons_c h ok m P.length _ _ _ _ (Pl.consL m P.length) u (nodeHs h P (Pl.consL m P.length)) W hT (fun W hT => consistency_c m P.length (by omega) hlt (by omega) W hT) hu (nodeHs_fits h P _ l1 hOF (by omega)) (nodeHs_length _ _ _).symm (by rw [nodeHs_length]; exact consE_le (by omega) hlt (by omega))
    rwa [hLaw] at this
  · obtain rfl : m = P.length := by omega
    have hP0 := Pl.proofL_whole h P
    rw [hP0] at HV
    refine core h P.length g o cv P [] [] 0 0 0 0 _ _ w HFP HEP hm1 hm l3 (by simp) (fun p hp => by simp at hp) r1 HA1 HA2 (Lib.hid HR1) (Lib.hid HR2)
      (Lib.hid (fun W hT => (implSame P.length W).mono fun e w' ⟨A, c, he, hn, hb⟩ => ⟨_, he, hn, hb⟩)) (Lib.hid (fun W u hT hu => ?_)) HV HT
    exact rehCons_c h ok P.length P.length 0 0 0 0 [] u [] W hT (fun W hT => (consSame_c P.length W).mono fun e w' ⟨v, he, hn, hb⟩ => ⟨v, he, hn, hb⟩) hu ⟨by simp, fun x hx => by simp at hx⟩ rfl (by simp)
set_option maxHeartbeats 2000000 in
theorem walk (F : Stop.Interp) (w : World) (hF : F.answers w.tape) (h : Pl.HF) (ok : h.ok) (a1 : Int) (w1 : -9223372036854775808 ≤ a1 ∧ a1 ≤ 9223372036854775807) (v : Value) (P : List (List Nat)) (hv : HashesR w v P) (hT : LaidIsH w) :
    Calls Tryf.prog 6 #[hashV h, .int .i64 a1, v] w fun e w' => e = .returned (.bool true) ∧ Below w.heap.size w w' := by
  have HB := Lib.hid (fun C => (Below.refl w.heap.size w).alloc (Nat.le_refl _) (.cells C 24))
  obtain ⟨Av, cv, ev, h9v⟩ := id hv
  clear h9v
  subst ev
  by_cases g0 : ¬ Fits P
  case pos =>
    have HFx : Hid (∀ W, Below w.heap.size w W → Calls Tryf.prog 7 #[.slice Av P.length cv] W fun e w' => e = .returned (.bool false) ∧ W = w') := Lib.hid (fun W hb => (fits1_c (.slice Av P.length cv) P W (hv.below hb)).mono fun _ _ r => r.no g0)
    obtain ⟨Ah, Bh, Ch⟩ := h
    unfold hashV
    clear hT hF w1 hv g0 ok
    go_enter Tryf.func6, Tryf.ntmps6
    go_wp2_with fail
    refine (HFx.out _ (HB.out _)).mono ?_; rintro e w' ⟨rfl, rfl⟩
    go_wp2_with fail
    go_ret
    exact ⟨rfl, HB.out _⟩
  have gfP : Fits P := Classical.not_not.1 g0
  clear g0
  have HFP : Hid (∀ W, Below w.heap.size w W → Calls Tryf.prog 7 #[.slice Av P.length cv] W fun e w' => e = .returned (.bool true) ∧ W = w') := Lib.hid (fun W hb => (fits1_c (.slice Av P.length cv) P W (hv.below hb)).mono fun _ _ r => r.yes gfP)
  by_cases g1 : ¬ IsLeaves P
  case pos =>
    have HSx : Hid (∀ W, Below w.heap.size w W → Calls Tryf.prog 12 #[.slice Av P.length cv] W fun e w' => e = .returned (.bool false) ∧ W = w') := Lib.hid (fun W hb => (leaves_c (.slice Av P.length cv) P W (hv.below hb) gfP.1).mono fun _ _ r => r.no g1)
    obtain ⟨Ah, Bh, Ch⟩ := h
    unfold hashV
    clear hT hF w1 hv gfP g1 ok
    go_enter Tryf.func6, Tryf.ntmps6
    go_wp2_with fail
    refine (HFP.out _ (HB.out _)).mono ?_; rintro e w' ⟨rfl, rfl⟩
    go_wp2_with fail
    refine (HSx.out _ (HB.out _)).mono ?_; rintro e w' ⟨rfl, rfl⟩
    go_wp2_with fail
    go_ret
    exact ⟨rfl, HB.out _⟩
  have geP : IsLeaves P := Classical.not_not.1 g1
  clear g1
  have HEP : Hid (∀ W, Below w.heap.size w W → Calls Tryf.prog 12 #[.slice Av P.length cv] W fun e w' => e = .returned (.bool true) ∧ W = w') := Lib.hid (fun W hb => (leaves_c (.slice Av P.length cv) P W (hv.below hb) gfP.1).mono fun _ _ r => r.yes geP)
  by_cases g2 : a1 < 1
  case pos =>
    obtain ⟨Ah, Bh, Ch⟩ := h
    unfold hashV
    clear hT hF w1 hv geP gfP ok
    go_enter Tryf.func6, Tryf.ntmps6
    go_wp2_with fail
    refine (HFP.out _ (HB.out _)).mono ?_; rintro e w' ⟨rfl, rfl⟩
    go_wp2_with fail
    refine (HEP.out _ (HB.out _)).mono ?_; rintro e w' ⟨rfl, rfl⟩
    go_wp2_with fail
    go_ret
    exact ⟨rfl, HB.out _⟩
  by_cases g3 : (P.length : Int) < a1
  case pos =>
    obtain ⟨Ah, Bh, Ch⟩ := h
    unfold hashV
    clear hT hF w1 hv geP gfP ok
    go_enter Tryf.func6, Tryf.ntmps6
    go_wp2_with fail
    refine (HFP.out _ (HB.out _)).mono ?_; rintro e w' ⟨rfl, rfl⟩
    go_wp2_with fail
    refine (HEP.out _ (HB.out _)).mono ?_; rintro e w' ⟨rfl, rfl⟩
    go_wp2_with fail
    go_ret
    exact ⟨rfl, HB.out _⟩
  exact main F h ok a1 Av cv P w hF hT.1 hT.handle hv gfP HFP geP HEP (by omega) (by omega)
theorem reads (os : Os) {H : Type} (enc : TypeId × Value → H) : ∃ places, DataW.whole enc Tryf.prog ((laidWorldH os).forCall (fun _ _ => 0) ⟨#[], #[.agg #[.int .u32 0, .int .u32 0, .int .u32 0], .int .i64 0, .slice none 0 0], []⟩).memory Tryf.f6.params.toList Rows.fnRangeConsistencySpec.vars false (#[.agg #[.int .u32 0, .int .u32 0, .int .u32 0], .int .i64 0, .slice none 0 0] : Array Value).toList 8 = some ([.agg [.lit (.int .u32 0), .lit (.int .u32 0), .lit (.int .u32 0)], .lit (.int .i64 0), .nil], [], places) :=
  ⟨[], by kernel_rfl⟩
set_option maxRecDepth 100000 in
theorem contract (F : Stop.Interp) (H : Type) (enc : TypeId × Value → H) (W : World) (base : Nat) (args : Array Value) (ds gs : List (DataW H)) (before : List MemPlace) (hF : F.told.answers W.tape)
    (hval0 : ∀ (j : Nat) t v, Tryf.f6.params[j]? = some t → args[j]? = some v → Value.okWide Tryf.prog W .any base t v)
    (hW : DataW.Whole enc Tryf.prog Tryf.f6.params.toList Rows.fnRangeConsistencySpec.vars false W args.toList ds gs before) (hL : laidMetH Tryf.prog Rows.fnRangeConsistencyRow.laid W) :
    Calls Tryf.prog 6 args W fun e W' => ∃ v, e = .returned v ∧ ((OpenSpec.ofChange Rows.fnRangeConsistencySpec).at F.told).post enc Tryf.prog Tryf.f6 false true false false W args v W' := by
  have hval : ∀ (j : Nat) t v, Tryf.f6.params[j]? = some t → args[j]? = some v → Value.okWide Tryf.prog W .any base t v := hval0
  have hW' := hW
  obtain ⟨p, q, hA0, hV, rfl, hfz, hnd⟩ := hW
  have hA : DataW.TrodAll enc Tryf.prog W 0 (fun _ => true) true Tryf.f6.params.toList args.toList ds p := hA0
  rw [Tryf.params6] at hA hval
  obtain ⟨v0, vs0, d0, ds0, p0, q0, hargs, rfl, rfl, h0, r0⟩ := trodAll_cons hA
  obtain ⟨v1, vs1, d1, ds1, p1, q1, rfl, rfl, rfl, h1, r1⟩ := trodAll_cons r0
  obtain ⟨v2, vs2, d2, ds2, p2, q2, rfl, rfl, rfl, h2, r2⟩ := trodAll_cons r1
  obtain ⟨rfl, rfl, rfl⟩ := trodAll_nil r2
  obtain rfl : args = #[v0, v1, v2] := by cases args; simp_all
  obtain ⟨rfl, rfl⟩ := trodVars_none hV
  have k0 := h0
  have lt0 : ∀ x ∈ p0, x.block < W.heap.size := by obtain ⟨m, hm⟩ := k0; exact DataW.trod_lt m _ _ _ hm
  obtain ⟨hh0, rfl, w0⟩ := openHash (hval 0 24 v0 rfl rfl) h0
  have k1 := h1
  have lt1 : ∀ x ∈ p1, x.block < W.heap.size := by obtain ⟨m, hm⟩ := k1; exact DataW.trod_lt m _ _ _ hm
  obtain ⟨a1, rfl, hd1, hp1, w1⟩ := open_int Tryf.underlying3 (hval 1 3 v1 rfl rfl) h1
  have k2 := h2
  have lt2 : ∀ x ∈ p2, x.block < W.heap.size := by obtain ⟨m, hm⟩ := k2; exact DataW.trod_lt m _ _ _ hm
  obtain ⟨L2, w2⟩ := openHashes (hval 2 27 v2 rfl rfl) h2
  refine (walk F.told W hF hh0 w0 a1 (bound_i64 w1) v2 L2 w2 (laidIsH_of hL)).mono fun e W' ⟨he, bel⟩ => ?_
  subst he
  exact ⟨_, rfl, _, _, _, [], _, [], hW', trodAll_mk1 (shut_bool Tryf.underlying4 _), (trodAll_cons_mk (Below.trod laidOut (by kernel_rfl) (of_decide_eq_true (by kernel_rfl)) k0 bel lt0) (trodAll_cons_mk (Below.trod laidOut (by kernel_rfl) (of_decide_eq_true (by kernel_rfl)) k1 bel lt1) (trodAll_cons_mk (Below.trod laidOut (by kernel_rfl) (of_decide_eq_true (by kernel_rfl)) k2 bel lt2) trodAll_mk0))), rfl, bel.frame _, fun h => by cases h⟩
set_option maxRecDepth 100000 in
theorem lifted (os : Os) (started : os.Started) (H : Type) (enc : TypeId × Value → H) :
    ReturnsInTold none {} Tryf.checked os 6 .any Input.okWide ((OpenSpec.ofChange Rows.fnRangeConsistencySpec).preRow enc Tryf.prog Tryf.f6 Rows.fnRangeConsistencyRow.domain false Rows.fnRangeConsistencyRow.laid) (fun F => ((OpenSpec.ofChange Rows.fnRangeConsistencySpec).at F).post enc Tryf.prog Tryf.f6 false true false false) (aloneAtReturn Tryf.prog) nothingAlways := by
  obtain ⟨places, hx⟩ := reads os enc
  refine returnsInTold_of_row (C := Tryf.checked) (s := OpenSpec.ofChange Rows.fnRangeConsistencySpec) mayEnter own started (by kernel_rfl) Tryf.func6
    (OpenSpec.witness_stopped_at (enc := enc) (C := Tryf.checked) false (laidWorldH os) #[.agg #[.int .u32 0, .int .u32 0, .int .u32 0], .int .i64 0, .slice none 0 0] rfl (by kernel_rfl) (by kernel_rfl) (by kernel_rfl)
      (OpenSpec.preRow_of_cond 8 hx (by kernel_rfl) (fun k hk => by cases hk) (by kernel_rfl) (laid_metH os #[.agg #[.int .u32 0, .int .u32 0, .int .u32 0], .int .i64 0, .slice none 0 0]))) ?_
  intro F W base args ds gs before _ hF hval hW _ _ _ hL _
  exact contract F H enc W base args ds gs before hF hval hW hL
theorem proved : Rows.FnRangeConsistencyToldSaid :=
  Claim7.holds_of_told_tied_any_at .later 6 Tryf.f6 "fmt.errorf" [] [] _ _ _ _ _ (by kernel_rfl) rfl rfl rfl laidOut (by kernel_rfl) rfl ⟨rfl, rfl, rfl, rfl, rfl, rfl, rfl⟩ rfl rfl (by kernel_rfl) (by kernel_rfl) Tryf.func6 (by kernel_rfl)
    (of_decide_eq_true (by kernel_rfl)) (by unfold Func.isWrapper; first | (rw [if_pos (by decide +kernel)]; kernel_rfl) | (rw [if_neg (by decide +kernel)]; exact ⟨rfl, rfl⟩)) stopsAre.symm rfl stopKnobs.symm (by kernel_rfl)
    (by kernel_rfl) (by kernel_rfl) (by kernel_rfl) (by kernel_rfl) (by kernel_rfl) (by kernel_rfl) (by kernel_rfl) (by kernel_rfl) (by kernel_rfl) rfl (by kernel_rfl) rfl rfl
    rfl rfl
    rfl mainIs (by kernel_rfl) (by kernel_rfl) (by decide) (by kernel_rfl) fnRangeConsistency_row_tie
    (OpenClaim.moreEntering_of mayEnter (by kernel_rfl) (by kernel_rfl) (by kernel_rfl) (by kernel_rfl) (by kernel_rfl) (by kernel_rfl) (by kernel_rfl) liftsFinal.symm make)
    ⟨_, WideRow.started_initial, quiet _⟩
    (fun os started _ H enc _ => lifted os started H enc)
end Go.Proofs.YtobnmgnnidhfkaaFmt.fnRangeConsistency
