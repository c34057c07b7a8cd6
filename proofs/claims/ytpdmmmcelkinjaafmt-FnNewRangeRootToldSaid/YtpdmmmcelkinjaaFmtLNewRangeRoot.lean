/- A range that is made of its hashes has the root of the tree of its leaves. -/
import Derived.Test.YtpdmmmcelkinjaaFmtImplApp
import Derived.Test.YtpdmmmcelkinjaaFmtWorks
import Derived.Test.YtpdmmmcelkinjaaFmtImplNew
import Derived.Test.YtpdmmmcelkinjaaFmtPieceH
import Derived.Test.YtpdmmmcelkinjaaFmtMthW
import Derived.Test.YtpdmmmcelkinjaaFmtOpenH
namespace Go.Proofs.YtpdmmmcelkinjaaFmt.fnNewRangeRoot
open Go.ChangeShapes Go.WideShapes Go.ChangeAt Go.RowKit
set_option maxRecDepth 100000
theorem ph_two (h : Pl.HF) (P : List (List Nat)) (hP : ∀ x ∈ P, x.length = 2) (hl : P.length ≤ 1000) : ∀ x ∈ Pl.ph h (Pl.lv P 0) 0 (0 + P.length), x.length = 2 := by
  intro x hx
  unfold Pl.ph at hx
  obtain ⟨p, hp, rfl⟩ := List.mem_map.1 hx
  obtain ⟨k, hk, rfl⟩ := List.getElem_of_mem hp
  obtain ⟨p1, _, p3, _, _⟩ := Pl.pos_pieces (0 + P.length) (by omega) k 0 hk
  rw [← p1] at p3
  generalize (Pl.pieces 0 (0 + P.length))[k] = q at *
  obtain ⟨l, i⟩ := q
  rw [gv_lv h P 0 l i (Nat.zero_le _)]
  simp only [] at p3
  by_cases h2 : 2 ≤ 2 ^ l
  · rw [Pl.mr_two _ _ _ _ h2]; rfl
  · have h0 := Nat.two_pow_pos l
    have h1 : 2 ^ l = 1 := by omega
    rw [h1, Pl.mr_one]
    unfold Pl.atL
    rw [h1] at p3
    rw [List.getD_eq_getElem?_getD, List.getElem?_eq_getElem (by omega)]
    exact hP _ (List.getElem_mem _)
abbrev SR (w : World) (x1 x2 x3 : Value) (w' : World) : Prop := w'.cell? ⟨w.heap.size, 0, none⟩ = some x1 ∧ w'.cell? ⟨w.heap.size, 1, none⟩ = some x2 ∧ w'.cell? ⟨w.heap.size, 2, none⟩ = some x3 ∧ Below w.heap.size w w' ∧ w.heap.size < w'.heap.size
theorem keepR {w W w' : World} {B : Nat} {x1 x2 x3 : Value} (hb : Below B W w') (hB : w.heap.size < B) (h : SR w x1 x2 x3 W) : SR w x1 x2 x3 w' :=
  have up : ∀ k {v : Value}, W.cell? ⟨w.heap.size, k, none⟩ = some v → w'.cell? ⟨w.heap.size, k, none⟩ = some v := fun k {_} h => (hb.cell (p := ⟨w.heap.size, k, none⟩) hB).trans h
  ⟨up 0 h.1, up 1 h.2.1, up 2 h.2.2.1, h.2.2.2.1.trans (hb.mono (by omega)), Nat.lt_of_lt_of_le h.2.2.2.2 hb.size⟩
theorem set7B (g : Nat) (w : World) (v0 v1 v2 v3 v4 v5 v6 : Value) : Below g w (((((((w.setCell ⟨g, 0, none⟩ v0).setCell ⟨g, 1, none⟩ v1).setCell ⟨g, 2, none⟩ v2).setCell ⟨g, 3, none⟩ v3).setCell ⟨g, 4, none⟩ v4).setCell ⟨g, 5, none⟩ v5).setCell ⟨g, 6, none⟩ v6) :=
  (((((((Below.refl g w).setCell (p := ⟨g, 0, none⟩) (Nat.le_refl _) v0).setCell (p := ⟨g, 1, none⟩) (Nat.le_refl _) v1).setCell (p := ⟨g, 2, none⟩) (Nat.le_refl _) v2).setCell (p := ⟨g, 3, none⟩) (Nat.le_refl _) v3).setCell (p := ⟨g, 4, none⟩) (Nat.le_refl _) v4).setCell (p := ⟨g, 5, none⟩) (Nat.le_refl _) v5).setCell (p := ⟨g, 6, none⟩) (Nat.le_refl _) v6
abbrev SA (w : World) (g3 : Nat) (x1 x2 x3 rv v : Value) (R : List Nat) (P : List (List Nat)) (w' : World) : Prop := w'.cell? ⟨w.heap.size, 0, none⟩ = some x1 ∧ w'.cell? ⟨w.heap.size, 1, none⟩ = some x2 ∧ w'.cell? ⟨w.heap.size, 2, none⟩ = some x3 ∧ w'.cell? ⟨g3, 3, none⟩ = some rv ∧ w'.cell? ⟨g3, 4, none⟩ = some (.bool true) ∧ BytesR w' rv R ∧ HashesR w' v P ∧ Below w.heap.size w w'
theorem keepA {w W w' : World} {g3 : Nat} {x1 x2 x3 rv v : Value} {R : List Nat} {P : List (List Nat)} (hb : Below W.heap.size W w') (h : SA w g3 x1 x2 x3 rv v R P W) : SA w g3 x1 x2 x3 rv v R P w' :=
  have up : ∀ {p : Addr} {v : Value}, W.cell? p = some v → w'.cell? p = some v := fun {p} {_} h => (hb.cell (World.block_lt_of_cell? W p h)).trans h
  ⟨up h.1, up h.2.1, up h.2.2.1, up h.2.2.2.1, up h.2.2.2.2.1, h.2.2.2.2.2.1.below hb, h.2.2.2.2.2.2.1.below hb, h.2.2.2.2.2.2.2.trans (hb.mono h.2.2.2.2.2.2.2.size)⟩
theorem wpAnyE_two {P : Program} {ops : Array Oper} {Q : Exit → Act → World → Prop} {md : Region.Mode} {S : World → Prop} {X : List Nat} (i j : Nat) {o p : Oper} {fuel : Nat} {listed : Array Bool} {a : Act} {w : World} (hr : Region.ready md ops listed = [i, j]) (hi : ops[i]? = some o) (hj : ops[j]? = some p)
    (h : ∀ K' : Act → World → Prop, Shut (∀ a w, (i ∉ X → S w) → wpAnyE P md ops Q S X fuel (listed.setIfInBounds i true) a w → K' a w) → if Region.wanted o (yielded ops a.tmps) = true then Oper.wp P o a w K' Q else K' (a.put o.dst undef) w)
    (h' : ∀ K' : Act → World → Prop, Shut (∀ a w, (j ∉ X → S w) → wpAnyE P md ops Q S X fuel (listed.setIfInBounds j true) a w → K' a w) → if Region.wanted p (yielded ops a.tmps) = true then Oper.wp P p a w K' Q else K' (a.put p.dst undef) w) :
    wpAnyE P md ops Q S X (fuel + 1) listed a w :=
  ⟨fun h0 => (by rw [hr] at h0; cases h0), fun k hk => by
    rw [hr] at hk
    rcases List.mem_cons.1 hk with rfl | hk
    · exact wpOp_step hi (fun K' hK => h K' (fun a w hS hW => hK a w ⟨hS, hW⟩))
    · obtain rfl := List.mem_singleton.1 hk
      exact wpOp_step hj (fun K' hK => h' K' (fun a w hS hW => hK a w ⟨hS, hW⟩))⟩
set_option maxHeartbeats 8000000 in
theorem main (F : Stop.Interp) (h : Pl.HF) (ok : h.ok) (Av : Option Addr) (cv : Nat) (P : List (List Nat)) (w : World) (hF : F.answers w.tape) (hT : Tab w) (hv : HashesR w (.slice Av P.length cv) P) (gfP : Fits P) (HFP : Hid (∀ W, Below w.heap.size w W → Calls Tryf.prog 14 #[.slice Av P.length cv] W fun e w' => e = .returned (.bool true) ∧ W = w')) (hn : P.length ≤ 200) (h2 : ∀ x ∈ P, x.length = 2) (HEP : P.length ≠ 0 → Hid (∀ W, Below w.heap.size w W → Calls Tryf.prog 15 #[.slice Av P.length cv] W fun e w' => e = .returned (.bool true) ∧ W = w')) (hpos : P.length ≠ 0) :
    Calls Tryf.prog 3 #[hashV h, .slice Av P.length cv] w fun e w' => e = .returned (.bool true) ∧ Below w.heap.size w w' := by
  have HB := Lib.hid (fun C => (Below.refl w.heap.size w).alloc (Nat.le_refl _) (.cells C 24))
  have HV := Lib.hid hv
  have HT := Lib.hid hT
  have HF := Lib.hid hF
  have HOK := Lib.hid ok
  have H22 := Lib.hid h2
  have HGF := Lib.hid gfP
  have HN := Lib.hid hn
  have HM := Lib.hid (fun W (hW : HashesR W (.slice Av P.length cv) P) => mth_c h ok (.slice Av P.length cv) P W (by omega) (by omega) hW)
  have HRM := Lib.hid (rootAt_mth h P (by omega) (by omega))
  have HPH := Lib.hid (fun W (hW : Below w.heap.size w W) => pieceHashes_c h ok 0 (.slice Av P.length cv) P W (hv.below hW) (by omega) (by omega))
  have HNW := Lib.hid (fun W u (hW : Below w.heap.size w W) (hu : HashesR W u (Pl.ph h (Pl.lv P 0) 0 (0 + P.length))) => new_c F h ok 0 P.length u (Pl.ph h (Pl.lv P 0) 0 (0 + P.length)) W (ans_below hF hW) hu (ph_two h P h2 (by omega)) (Nat.zero_le _) (by omega) (by rw [Pl.ph_length, Nat.zero_add]) (hT.below hW))
  have w1 : IntKind.u64.wrap ((P.length : Nat) : Int) = ((P.length : Nat) : Int) := wrapN _ (by omega)
  have hn1 : (P.length : Int) ≤ 200 := by omega
  clear hv hT hF ok h2 gfP
  have HE1 := HEP hpos
  have hz1 : (0 : Int) < (P.length : Int) := by omega
  clear HEP hn
  generalize hnn : P.length = n at *
  have HNN := Lib.hid hnn
  clear hnn
  obtain ⟨Ah, Bh, Ch⟩ := h
  unfold hashV
  go_enter Tryf.func3, Tryf.ntmps3
  go_wp2_with fail
  refine (HFP.out _ (HB.out _)).mono ?_; rintro e w' ⟨rfl, rfl⟩
  go_wp2_with fail
  refine (HE1.out _ (HB.out _)).mono ?_; rintro e w' ⟨rfl, rfl⟩
  go_wp2_with fail
  generalize hPH : Pl.ph ⟨Ah, Bh, Ch⟩ (Pl.lv P 0) 0 (0 + n) = H at *
  clear hPH
  generalize hMT : Pl.mth ⟨Ah, Bh, Ch⟩ P = R at *
  clear hMT
  unfold hashV at HPH HM HNW
  simp only [] at HPH HM HNW
  have S0 : SR w (.int .u32 (Ah : Int)) (.int .u32 (Bh : Int)) (.int .u32 (Ch : Int)) (w.alloc (.cells #[.int .u32 (Ah : Int), .int .u32 (Bh : Int), .int .u32 (Ch : Int)] 24)).drew := ⟨(Blk.new w _ _).drew.cell 0, (Blk.new w _ _).drew.cell 1, (Blk.new w _ _).drew.cell 2, (HB.out _).drew, (Blk.new w _ _).drew.lt⟩
  have hT1 : (w.alloc (.cells #[.int .u32 (Ah : Int), .int .u32 (Bh : Int), .int .u32 (Ch : Int)] 24)).drew.heap.size = w.heap.size + 1 := by simp
  refine wp_region_E (fun w' => SR w (.int .u32 (Ah : Int)) (.int .u32 (Bh : Int)) (.int .u32 (Ch : Int)) w') [] (by kernel_rfl) S0 (fun hHeld => ?_)
  refine wpAnyE_take 0 [] (some 14) (v := .agg #[.int .u32 (Ah : Int), .int .u32 (Bh : Int), .int .u32 (Ch : Int)]) rfl rfl (by kernel_rfl) (by kernel_rfl) (by kernel_rfl) (by kernel_rfl) (by kernel_rfl) (by kernel_rfl) (fun _ _ _ h => h) (by rfl) hHeld ?_ ?_
  · intro W hS
    obtain ⟨_, _, _, _, _⟩ := hS
    go_simp
  simp only [Act.put, List.setIfInBounds_toArray, List.set_cons_zero, List.set_cons_succ]
  refine wpAnyE_take 1 [] (some 15) (v := .slice Av n cv) rfl rfl (by kernel_rfl) (by kernel_rfl) (by kernel_rfl) (by kernel_rfl) (by kernel_rfl) (by kernel_rfl) (fun _ _ _ h => h) (by rfl) hHeld ?_ ?_
  · intro W hS
    obtain ⟨_, _, _, _, _⟩ := hS
    go_simp
  simp only [Act.put, List.setIfInBounds_toArray, List.set_cons_zero, List.set_cons_succ]
  refine wpAnyE_take 2 [] (some 16) (v := .int .i64 (n : Int)) rfl rfl (by kernel_rfl) (by kernel_rfl) (by kernel_rfl) (by kernel_rfl) (by kernel_rfl) (by kernel_rfl) (fun _ _ _ h => h) (by rfl) hHeld ?_ ?_
  · intro W hS
    obtain ⟨_, _, _, _, _⟩ := hS
    go_simp
  simp only [Act.put, List.setIfInBounds_toArray, List.set_cons_zero, List.set_cons_succ]
  refine wpAnyE_take 3 [] (some 17) (v := .int .u64 (n : Int)) rfl rfl (by kernel_rfl) (by kernel_rfl) (by kernel_rfl) (by kernel_rfl) (by kernel_rfl) (by kernel_rfl) (fun _ _ _ h => h) (by rfl) hHeld ?_ ?_
  · intro W hS
    obtain ⟨_, _, _, _, _⟩ := hS
    go_simp
  simp only [Act.put, List.setIfInBounds_toArray, List.set_cons_zero, List.set_cons_succ]
  refine wpAnyE_take 4 [] (some 18) (v := .agg #[.int .u32 (Ah : Int), .int .u32 (Bh : Int), .int .u32 (Ch : Int)]) rfl rfl (by kernel_rfl) (by kernel_rfl) (by kernel_rfl) (by kernel_rfl) (by kernel_rfl) (by kernel_rfl) (fun _ _ _ h => h) (by rfl) hHeld ?_ ?_
  · intro W hS
    obtain ⟨_, _, _, _, _⟩ := hS
    go_simp
  simp only [Act.put, List.setIfInBounds_toArray, List.set_cons_zero, List.set_cons_succ]
  refine wpAnyE_take 5 [] (some 19) (v := .slice Av n cv) rfl rfl (by kernel_rfl) (by kernel_rfl) (by kernel_rfl) (by kernel_rfl) (by kernel_rfl) (by kernel_rfl) (fun _ _ _ h => h) (by rfl) hHeld ?_ ?_
  · intro W hS
    obtain ⟨_, _, _, _, _⟩ := hS
    go_simp
  simp only [Act.put, List.setIfInBounds_toArray, List.set_cons_zero, List.set_cons_succ]
  refine wpAnyE_two 6 11 (by kernel_rfl) rfl rfl (fun K hK => ?_) (fun K hK => ?_)
  · skip
    go_simp
    refine (HPH.out _ hHeld.2.2.2.1).mono ?_; rintro e9 w1 ⟨pv, rfl, hpv0, hbp⟩
    have hpv := hpv0.hashes
    obtain ⟨Ap, np, cp, rfl⟩ : ∃ A n c, pv = .slice A n c := by obtain ⟨A, c, e, _⟩ := hpv; exact ⟨A, _, c, e⟩
    have hHeld : SR w (.int .u32 (Ah : Int)) (.int .u32 (Bh : Int)) (.int .u32 (Ch : Int)) w1 := keepR hbp hHeld.2.2.2.2 hHeld
    have Sp := hHeld
    refine hK.out _ _ (fun _ => hHeld) ?_
    clear hK K
    try simp only [Act.put, List.setIfInBounds_toArray, List.set_cons_zero, List.set_cons_succ]
    refine wpAnyE_two 7 11 (by kernel_rfl) rfl rfl (fun K hK => ?_) (fun K hK => ?_)
    · skip
      go_simp
      refine (HNW.out _ _ hHeld.2.2.2.1 hpv).mono ?_; rintro r w2 ⟨A2, Ar, A7, c2, nr, cr, c7, nE, kb, R2, E, rfl, HQ, HK, hbn⟩
      obtain rfl : kb = true := by rw [HQ.out.1]; rfl
      obtain rfl : R2 = R := by rw [HQ.out.2.1, HRM.out]
      have hHeld : SR w (.int .u32 (Ah : Int)) (.int .u32 (Bh : Int)) (.int .u32 (Ch : Int)) w2 := keepR hbn hHeld.2.2.2.2 hHeld
      have Sn := hHeld
      refine hK.out _ _ (fun _ => hHeld) ?_
      clear hK K
      try simp only [Act.put, List.setIfInBounds_toArray, List.set_cons_zero, List.set_cons_succ]
      refine wpAnyE_take 8 [] (some 13) (v := .tuple #[.agg #[.int .u64 0, .int .u64 (n : Int), .slice A2 H.length c2, .slice Ar nr cr, .bool true, .slice none 0 0, .slice A7 nE c7], .bool true]) rfl rfl (by kernel_rfl) (by kernel_rfl) (by kernel_rfl) (by kernel_rfl) (by kernel_rfl) (by kernel_rfl) (fun _ _ _ h => h) (by rfl) hHeld ?_ ?_
      · intro W hS
        obtain ⟨_, _, _, _, _⟩ := hS
        go_simp
      simp only [Act.put, List.setIfInBounds_toArray, List.set_cons_zero, List.set_cons_succ]
      refine wpAnyE_take 9 [] (some 22) (v := .agg #[.int .u64 0, .int .u64 (n : Int), .slice A2 H.length c2, .slice Ar nr cr, .bool true, .slice none 0 0, .slice A7 nE c7]) rfl rfl (by kernel_rfl) (by kernel_rfl) (by kernel_rfl) (by kernel_rfl) (by kernel_rfl) (by kernel_rfl) (fun _ _ _ h => h) (by rfl) hHeld ?_ ?_
      · intro W hS
        obtain ⟨_, _, _, _, _⟩ := hS
        go_simp
      simp only [Act.put, List.setIfInBounds_toArray, List.set_cons_zero, List.set_cons_succ]
      refine wpAnyE_take 10 [] (some 23) (v := .bool true) rfl rfl (by kernel_rfl) (by kernel_rfl) (by kernel_rfl) (by kernel_rfl) (by kernel_rfl) (by kernel_rfl) (fun _ _ _ h => h) (by rfl) hHeld ?_ ?_
      · intro W hS
        obtain ⟨_, _, _, _, _⟩ := hS
        go_simp
      simp only [Act.put, List.setIfInBounds_toArray, List.set_cons_zero, List.set_cons_succ]
      refine wpAnyE_one 11 (by kernel_rfl) rfl (fun K hK => ?_)
      go_simp
      have BA : Below w2.heap.size w2 (w2.alloc (.cells #[.int .u64 0, .int .u64 0, .slice none 0 0, .slice none 0 0, .bool false, .slice none 0 0, .slice none 0 0] 31)) := (Below.refl _ _).alloc (Nat.le_refl _) _
      have hHeld := keepR BA hHeld.2.2.2.2 hHeld
      refine hK.out _ _ (fun _ => hHeld) ?_
      clear hK K
      try simp only [Act.put, List.setIfInBounds_toArray, List.set_cons_zero, List.set_cons_succ]
      refine wpAnyE_one 12 (by kernel_rfl) rfl (fun K hK => ?_)
      go_simp
      have B5 : Below w2.heap.size w2 (w2.alloc (.cells #[.int .u64 0, .int .u64 (n : Int), .slice A2 H.length c2, .slice Ar nr cr, .bool true, .slice none 0 0, .slice A7 nE c7] 31)) := (Below.refl _ _).alloc (Nat.le_refl _) _
      have KF : Blk (w2.alloc (.cells #[.int .u64 0, .int .u64 (n : Int), .slice A2 H.length c2, .slice Ar nr cr, .bool true, .slice none 0 0, .slice A7 nE c7] 31)) w2.heap.size 31 #[.int .u64 0, .int .u64 (n : Int), .slice A2 H.length c2, .slice Ar nr cr, .bool true, .slice none 0 0, .slice A7 nE c7] := Blk.new _ _ _
      have SF : SR w (.int .u32 (Ah : Int)) (.int .u32 (Bh : Int)) (.int .u32 (Ch : Int)) (w2.alloc (.cells #[.int .u64 0, .int .u64 (n : Int), .slice A2 H.length c2, .slice Ar nr cr, .bool true, .slice none 0 0, .slice A7 nE c7] 31)) := keepR B5 Sn.2.2.2.2 Sn
      have RF := HK.out.2.1.1.below B5
      clear BA B5
      refine hK.out _ _ (fun _ => SF) ?_
      clear hK K
      try simp only [Act.put, List.setIfInBounds_toArray, List.set_cons_zero, List.set_cons_succ]
      generalize (w2.alloc (.cells #[.int .u64 0, .int .u64 (n : Int), .slice A2 H.length c2, .slice Ar nr cr, .bool true, .slice none 0 0, .slice A7 nE c7] 31)) = W5 at *
      generalize w2.heap.size = g9 at *
      refine wpAnyE_one 13 (by kernel_rfl) rfl (fun K hK => ?_)
      go_simp
      refine hK.out _ _ (fun _ => SF) ?_
      clear hK K
      refine wpAnyE_done (by kernel_rfl) ?_ _
      have BD : Below W5.heap.size W5 W5.drew := (Below.refl _ _).drew
      have S6 : SA w g9 (.int .u32 (Ah : Int)) (.int .u32 (Bh : Int)) (.int .u32 (Ch : Int)) (.slice Ar nr cr) (.slice Av n cv) R2 P W5.drew := keepA BD ⟨SF.1, SF.2.1, SF.2.2.1, KF.cell 3, KF.cell 4, RF, HV.out.below SF.2.2.2.1, SF.2.2.2.1⟩
      have z0 := S6.2.2.2.2.2.1.str
      clear KF SF RF BD HK HQ hHeld Sn HPH HNW HFP HE1
      go_wp2_with fail
      go_region_held_law (fun w' => w'.cell? ⟨w.heap.size, 0, none⟩ = some (.int .u32 (Ah : Int)) ∧ w'.cell? ⟨w.heap.size, 1, none⟩ = some (.int .u32 (Bh : Int)) ∧ w'.cell? ⟨w.heap.size, 2, none⟩ = some (.int .u32 (Ch : Int)) ∧ w'.cell? ⟨g9, 3, none⟩ = some (.slice Ar nr cr) ∧ w'.cell? ⟨g9, 4, none⟩ = some (.bool true) ∧ BytesR w' (.slice Ar nr cr) R2 ∧ HashesR w' (.slice Av n cv) P ∧ Below w.heap.size w w')
        (first | with_reducible assumption | with_reducible exact S6 | with_reducible exact keepA hbm S6 | fail)
        (first
          | (go_at_call 18; refine (HM.out _ S6.2.2.2.2.2.2.1).mono ?_; rintro e9 w' ⟨um, rfl, hum, hbm⟩; have z1 := hum.str; have z2 := (S6.2.2.2.2.2.1.below hbm).str)
          | fail)
      all_goals
        have hfin := S6.2.2.2.2.2.2.2.trans (hbm.mono S6.2.2.2.2.2.2.2.size)
        go_wp2
        go_ret
        exact ⟨by first | rfl | (simp <;> omega), hfin⟩
    · skip
      go_simp
      have BA : Below w1.heap.size w1 (w1.alloc (.cells #[.int .u64 0, .int .u64 0, .slice none 0 0, .slice none 0 0, .bool false, .slice none 0 0, .slice none 0 0] 31)) := (Below.refl _ _).alloc (Nat.le_refl _) _
      have hHeld := keepR BA hHeld.2.2.2.2 hHeld
      refine hK.out _ _ (fun _ => hHeld) ?_
      clear hK K
      try simp only [Act.put, List.setIfInBounds_toArray, List.set_cons_zero, List.set_cons_succ]
      refine wpAnyE_one 7 (by kernel_rfl) rfl (fun K hK => ?_)
      go_simp
      refine (HNW.out _ _ hHeld.2.2.2.1 (hpv.below BA)).mono ?_; rintro r w2 ⟨A2, Ar, A7, c2, nr, cr, c7, nE, kb, R2, E, rfl, HQ, HK, hbn⟩
      obtain rfl : kb = true := by rw [HQ.out.1]; rfl
      obtain rfl : R2 = R := by rw [HQ.out.2.1, HRM.out]
      have hHeld : SR w (.int .u32 (Ah : Int)) (.int .u32 (Bh : Int)) (.int .u32 (Ch : Int)) w2 := keepR hbn hHeld.2.2.2.2 hHeld
      have Sn := hHeld
      refine hK.out _ _ (fun _ => hHeld) ?_
      clear hK K
      try simp only [Act.put, List.setIfInBounds_toArray, List.set_cons_zero, List.set_cons_succ]
      refine wpAnyE_take 8 [] (some 13) (v := .tuple #[.agg #[.int .u64 0, .int .u64 (n : Int), .slice A2 H.length c2, .slice Ar nr cr, .bool true, .slice none 0 0, .slice A7 nE c7], .bool true]) rfl rfl (by kernel_rfl) (by kernel_rfl) (by kernel_rfl) (by kernel_rfl) (by kernel_rfl) (by kernel_rfl) (fun _ _ _ h => h) (by rfl) hHeld ?_ ?_
      · intro W hS
        obtain ⟨_, _, _, _, _⟩ := hS
        go_simp
      simp only [Act.put, List.setIfInBounds_toArray, List.set_cons_zero, List.set_cons_succ]
      refine wpAnyE_take 9 [] (some 22) (v := .agg #[.int .u64 0, .int .u64 (n : Int), .slice A2 H.length c2, .slice Ar nr cr, .bool true, .slice none 0 0, .slice A7 nE c7]) rfl rfl (by kernel_rfl) (by kernel_rfl) (by kernel_rfl) (by kernel_rfl) (by kernel_rfl) (by kernel_rfl) (fun _ _ _ h => h) (by rfl) hHeld ?_ ?_
      · intro W hS
        obtain ⟨_, _, _, _, _⟩ := hS
        go_simp
      simp only [Act.put, List.setIfInBounds_toArray, List.set_cons_zero, List.set_cons_succ]
      refine wpAnyE_take 10 [] (some 23) (v := .bool true) rfl rfl (by kernel_rfl) (by kernel_rfl) (by kernel_rfl) (by kernel_rfl) (by kernel_rfl) (by kernel_rfl) (fun _ _ _ h => h) (by rfl) hHeld ?_ ?_
      · intro W hS
        obtain ⟨_, _, _, _, _⟩ := hS
        go_simp
      simp only [Act.put, List.setIfInBounds_toArray, List.set_cons_zero, List.set_cons_succ]
      have hZ : Blk w2 (w1.heap.size) 31 #[.int .u64 0, .int .u64 0, .slice none 0 0, .slice none 0 0, .bool false, .slice none 0 0, .slice none 0 0] := (Blk.new w1 31 #[.int .u64 0, .int .u64 0, .slice none 0 0, .slice none 0 0, .bool false, .slice none 0 0, .slice none 0 0]).below' hbn
      obtain ⟨y0, y1, y2, y3, y4, y5, y6, f0, f1, f2, f3, f4, f5, f6⟩ := hZ.seven
      refine wpAnyE_one 12 (by kernel_rfl) rfl (fun K hK => ?_)
      go_simp
      obtain ⟨KF, q2, q3⟩ := set7 hZ (.int .u64 0) (.int .u64 (n : Int)) (.slice A2 H.length c2) (.slice Ar nr cr) (.bool true) (.slice none 0 0) (.slice A7 nE c7)
      have SF : SR w (.int .u32 (Ah : Int)) (.int .u32 (Bh : Int)) (.int .u32 (Ch : Int)) (((((((w2.setCell ⟨w1.heap.size, 0, none⟩ (.int .u64 0)).setCell ⟨w1.heap.size, 1, none⟩ (.int .u64 (n : Int))).setCell ⟨w1.heap.size, 2, none⟩ (.slice A2 H.length c2)).setCell ⟨w1.heap.size, 3, none⟩ (.slice Ar nr cr)).setCell ⟨w1.heap.size, 4, none⟩ (.bool true)).setCell ⟨w1.heap.size, 5, none⟩ (.slice none 0 0)).setCell ⟨w1.heap.size, 6, none⟩ (.slice A7 nE c7)) := keepR q3 Sp.2.2.2.2 hHeld
      have RF := (HK.out.2.1.keep q2 (by decide)).1
      clear y0 y1 y2 y3 y4 y5 y6 f0 f1 f2 f3 f4 f5 f6 hZ q2 q3 BA
      refine hK.out _ _ (fun _ => SF) ?_
      clear hK K
      try simp only [Act.put, List.setIfInBounds_toArray, List.set_cons_zero, List.set_cons_succ]
      generalize (((((((w2.setCell ⟨w1.heap.size, 0, none⟩ (.int .u64 0)).setCell ⟨w1.heap.size, 1, none⟩ (.int .u64 (n : Int))).setCell ⟨w1.heap.size, 2, none⟩ (.slice A2 H.length c2)).setCell ⟨w1.heap.size, 3, none⟩ (.slice Ar nr cr)).setCell ⟨w1.heap.size, 4, none⟩ (.bool true)).setCell ⟨w1.heap.size, 5, none⟩ (.slice none 0 0)).setCell ⟨w1.heap.size, 6, none⟩ (.slice A7 nE c7)) = W5 at *
      generalize w1.heap.size = g9 at *
      refine wpAnyE_one 13 (by kernel_rfl) rfl (fun K hK => ?_)
      go_simp
      refine hK.out _ _ (fun _ => SF) ?_
      clear hK K
      refine wpAnyE_done (by kernel_rfl) ?_ _
      have BD : Below W5.heap.size W5 W5.drew := (Below.refl _ _).drew
      have S6 : SA w g9 (.int .u32 (Ah : Int)) (.int .u32 (Bh : Int)) (.int .u32 (Ch : Int)) (.slice Ar nr cr) (.slice Av n cv) R2 P W5.drew := keepA BD ⟨SF.1, SF.2.1, SF.2.2.1, KF.cell 3, KF.cell 4, RF, HV.out.below SF.2.2.2.1, SF.2.2.2.1⟩
      have z0 := S6.2.2.2.2.2.1.str
      clear KF SF RF BD HK HQ hHeld Sn HPH HNW HFP HE1
      go_wp2_with fail
      go_region_held_law (fun w' => w'.cell? ⟨w.heap.size, 0, none⟩ = some (.int .u32 (Ah : Int)) ∧ w'.cell? ⟨w.heap.size, 1, none⟩ = some (.int .u32 (Bh : Int)) ∧ w'.cell? ⟨w.heap.size, 2, none⟩ = some (.int .u32 (Ch : Int)) ∧ w'.cell? ⟨g9, 3, none⟩ = some (.slice Ar nr cr) ∧ w'.cell? ⟨g9, 4, none⟩ = some (.bool true) ∧ BytesR w' (.slice Ar nr cr) R2 ∧ HashesR w' (.slice Av n cv) P ∧ Below w.heap.size w w')
        (first | with_reducible assumption | with_reducible exact S6 | with_reducible exact keepA hbm S6 | fail)
        (first
          | (go_at_call 18; refine (HM.out _ S6.2.2.2.2.2.2.1).mono ?_; rintro e9 w' ⟨um, rfl, hum, hbm⟩; have z1 := hum.str; have z2 := (S6.2.2.2.2.2.1.below hbm).str)
          | fail)
      all_goals
        have hfin := S6.2.2.2.2.2.2.2.trans (hbm.mono S6.2.2.2.2.2.2.2.size)
        go_wp2
        go_ret
        exact ⟨by first | rfl | (simp <;> omega), hfin⟩
  · skip
    go_simp
    have BA : Below (w.alloc (.cells #[.int .u32 (Ah : Int), .int .u32 (Bh : Int), .int .u32 (Ch : Int)] 24)).drew.heap.size (w.alloc (.cells #[.int .u32 (Ah : Int), .int .u32 (Bh : Int), .int .u32 (Ch : Int)] 24)).drew ((w.alloc (.cells #[.int .u32 (Ah : Int), .int .u32 (Bh : Int), .int .u32 (Ch : Int)] 24)).drew.alloc (.cells #[.int .u64 0, .int .u64 0, .slice none 0 0, .slice none 0 0, .bool false, .slice none 0 0, .slice none 0 0] 31)) := (Below.refl _ _).alloc (Nat.le_refl _) _
    have hHeld := keepR BA hHeld.2.2.2.2 hHeld
    refine hK.out _ _ (fun _ => hHeld) ?_
    clear hK K
    try simp only [Act.put, List.setIfInBounds_toArray, List.set_cons_zero, List.set_cons_succ]
    refine wpAnyE_one 6 (by kernel_rfl) rfl (fun K hK => ?_)
    go_simp
    refine (HPH.out _ hHeld.2.2.2.1).mono ?_; rintro e9 w1 ⟨pv, rfl, hpv0, hbp⟩
    have hpv := hpv0.hashes
    obtain ⟨Ap, np, cp, rfl⟩ : ∃ A n c, pv = .slice A n c := by obtain ⟨A, c, e, _⟩ := hpv; exact ⟨A, _, c, e⟩
    have hHeld : SR w (.int .u32 (Ah : Int)) (.int .u32 (Bh : Int)) (.int .u32 (Ch : Int)) w1 := keepR hbp hHeld.2.2.2.2 hHeld
    have Sp := hHeld
    refine hK.out _ _ (fun _ => hHeld) ?_
    clear hK K
    try simp only [Act.put, List.setIfInBounds_toArray, List.set_cons_zero, List.set_cons_succ]
    refine wpAnyE_one 7 (by kernel_rfl) rfl (fun K hK => ?_)
    go_simp
    refine (HNW.out _ _ hHeld.2.2.2.1 hpv).mono ?_; rintro r w2 ⟨A2, Ar, A7, c2, nr, cr, c7, nE, kb, R2, E, rfl, HQ, HK, hbn⟩
    obtain rfl : kb = true := by rw [HQ.out.1]; rfl
    obtain rfl : R2 = R := by rw [HQ.out.2.1, HRM.out]
    have hHeld : SR w (.int .u32 (Ah : Int)) (.int .u32 (Bh : Int)) (.int .u32 (Ch : Int)) w2 := keepR hbn hHeld.2.2.2.2 hHeld
    have Sn := hHeld
    refine hK.out _ _ (fun _ => hHeld) ?_
    clear hK K
    try simp only [Act.put, List.setIfInBounds_toArray, List.set_cons_zero, List.set_cons_succ]
    refine wpAnyE_take 8 [] (some 13) (v := .tuple #[.agg #[.int .u64 0, .int .u64 (n : Int), .slice A2 H.length c2, .slice Ar nr cr, .bool true, .slice none 0 0, .slice A7 nE c7], .bool true]) rfl rfl (by kernel_rfl) (by kernel_rfl) (by kernel_rfl) (by kernel_rfl) (by kernel_rfl) (by kernel_rfl) (fun _ _ _ h => h) (by rfl) hHeld ?_ ?_
    · intro W hS
      obtain ⟨_, _, _, _, _⟩ := hS
      go_simp
    simp only [Act.put, List.setIfInBounds_toArray, List.set_cons_zero, List.set_cons_succ]
    refine wpAnyE_take 9 [] (some 22) (v := .agg #[.int .u64 0, .int .u64 (n : Int), .slice A2 H.length c2, .slice Ar nr cr, .bool true, .slice none 0 0, .slice A7 nE c7]) rfl rfl (by kernel_rfl) (by kernel_rfl) (by kernel_rfl) (by kernel_rfl) (by kernel_rfl) (by kernel_rfl) (fun _ _ _ h => h) (by rfl) hHeld ?_ ?_
    · intro W hS
      obtain ⟨_, _, _, _, _⟩ := hS
      go_simp
    simp only [Act.put, List.setIfInBounds_toArray, List.set_cons_zero, List.set_cons_succ]
    refine wpAnyE_take 10 [] (some 23) (v := .bool true) rfl rfl (by kernel_rfl) (by kernel_rfl) (by kernel_rfl) (by kernel_rfl) (by kernel_rfl) (by kernel_rfl) (fun _ _ _ h => h) (by rfl) hHeld ?_ ?_
    · intro W hS
      obtain ⟨_, _, _, _, _⟩ := hS
      go_simp
    simp only [Act.put, List.setIfInBounds_toArray, List.set_cons_zero, List.set_cons_succ]
    have hZ : Blk w2 (w.heap.size + 1) 31 #[.int .u64 0, .int .u64 0, .slice none 0 0, .slice none 0 0, .bool false, .slice none 0 0, .slice none 0 0] := ((Blk.new' (w.alloc (.cells #[.int .u32 (Ah : Int), .int .u32 (Bh : Int), .int .u32 (Ch : Int)] 24)).drew 31 #[.int .u64 0, .int .u64 0, .slice none 0 0, .slice none 0 0, .bool false, .slice none 0 0, .slice none 0 0] (by simp)).below' hbp).below' hbn
    obtain ⟨y0, y1, y2, y3, y4, y5, y6, f0, f1, f2, f3, f4, f5, f6⟩ := hZ.seven
    refine wpAnyE_one 12 (by kernel_rfl) rfl (fun K hK => ?_)
    go_simp
    obtain ⟨KF, q2, q3⟩ := set7 hZ (.int .u64 0) (.int .u64 (n : Int)) (.slice A2 H.length c2) (.slice Ar nr cr) (.bool true) (.slice none 0 0) (.slice A7 nE c7)
    have SF : SR w (.int .u32 (Ah : Int)) (.int .u32 (Bh : Int)) (.int .u32 (Ch : Int)) (((((((w2.setCell ⟨w.heap.size + 1, 0, none⟩ (.int .u64 0)).setCell ⟨w.heap.size + 1, 1, none⟩ (.int .u64 (n : Int))).setCell ⟨w.heap.size + 1, 2, none⟩ (.slice A2 H.length c2)).setCell ⟨w.heap.size + 1, 3, none⟩ (.slice Ar nr cr)).setCell ⟨w.heap.size + 1, 4, none⟩ (.bool true)).setCell ⟨w.heap.size + 1, 5, none⟩ (.slice none 0 0)).setCell ⟨w.heap.size + 1, 6, none⟩ (.slice A7 nE c7)) := keepR q3 (Nat.lt_succ_self _) hHeld
    have RF := (HK.out.2.1.keep q2 (by decide)).1
    clear y0 y1 y2 y3 y4 y5 y6 f0 f1 f2 f3 f4 f5 f6 hZ q2 q3 BA
    refine hK.out _ _ (fun _ => SF) ?_
    clear hK K
    try simp only [Act.put, List.setIfInBounds_toArray, List.set_cons_zero, List.set_cons_succ]
    generalize (((((((w2.setCell ⟨w.heap.size + 1, 0, none⟩ (.int .u64 0)).setCell ⟨w.heap.size + 1, 1, none⟩ (.int .u64 (n : Int))).setCell ⟨w.heap.size + 1, 2, none⟩ (.slice A2 H.length c2)).setCell ⟨w.heap.size + 1, 3, none⟩ (.slice Ar nr cr)).setCell ⟨w.heap.size + 1, 4, none⟩ (.bool true)).setCell ⟨w.heap.size + 1, 5, none⟩ (.slice none 0 0)).setCell ⟨w.heap.size + 1, 6, none⟩ (.slice A7 nE c7)) = W5 at *
    generalize w.heap.size + 1 = g9 at *
    refine wpAnyE_one 13 (by kernel_rfl) rfl (fun K hK => ?_)
    go_simp
    refine hK.out _ _ (fun _ => SF) ?_
    clear hK K
    refine wpAnyE_done (by kernel_rfl) ?_ _
    have BD : Below W5.heap.size W5 W5.drew := (Below.refl _ _).drew
    have S6 : SA w g9 (.int .u32 (Ah : Int)) (.int .u32 (Bh : Int)) (.int .u32 (Ch : Int)) (.slice Ar nr cr) (.slice Av n cv) R2 P W5.drew := keepA BD ⟨SF.1, SF.2.1, SF.2.2.1, KF.cell 3, KF.cell 4, RF, HV.out.below SF.2.2.2.1, SF.2.2.2.1⟩
    have z0 := S6.2.2.2.2.2.1.str
    clear KF SF RF BD HK HQ hHeld Sn HPH HNW HFP HE1
    go_wp2_with fail
    go_region_held_law (fun w' => w'.cell? ⟨w.heap.size, 0, none⟩ = some (.int .u32 (Ah : Int)) ∧ w'.cell? ⟨w.heap.size, 1, none⟩ = some (.int .u32 (Bh : Int)) ∧ w'.cell? ⟨w.heap.size, 2, none⟩ = some (.int .u32 (Ch : Int)) ∧ w'.cell? ⟨g9, 3, none⟩ = some (.slice Ar nr cr) ∧ w'.cell? ⟨g9, 4, none⟩ = some (.bool true) ∧ BytesR w' (.slice Ar nr cr) R2 ∧ HashesR w' (.slice Av n cv) P ∧ Below w.heap.size w w')
      (first | with_reducible assumption | with_reducible exact S6 | with_reducible exact keepA hbm S6 | fail)
      (first
        | (go_at_call 18; refine (HM.out _ S6.2.2.2.2.2.2.1).mono ?_; rintro e9 w' ⟨um, rfl, hum, hbm⟩; have z1 := hum.str; have z2 := (S6.2.2.2.2.2.1.below hbm).str)
        | fail)
    all_goals
      have hfin := S6.2.2.2.2.2.2.2.trans (hbm.mono S6.2.2.2.2.2.2.2.size)
      go_wp2
      go_ret
      exact ⟨by first | rfl | (simp <;> omega), hfin⟩
set_option maxHeartbeats 4000000 in
theorem walk (F : Stop.Interp) (w : World) (hF : F.answers w.tape) (h : Pl.HF) (ok : h.ok) (v : Value) (P : List (List Nat)) (hv : HashesR w v P) (hT : LaidIs w) :
    Calls Tryf.prog 3 #[hashV h, v] w fun e w' => e = .returned (.bool true) ∧ Below w.heap.size w w' := by
  have HB := Lib.hid (fun C => (Below.refl w.heap.size w).alloc (Nat.le_refl _) (.cells C 24))
  obtain ⟨Av, cv, ev, h9v⟩ := id hv
  clear h9v
  subst ev
  by_cases g0 : ¬ Fits P
  case pos =>
    have HFx : Hid (∀ W, Below w.heap.size w W → Calls Tryf.prog 14 #[.slice Av P.length cv] W fun e w' => e = .returned (.bool false) ∧ W = w') := Lib.hid (fun W hb => (fits1_c (.slice Av P.length cv) P W (hv.below hb)).mono fun _ _ r => r.no g0)
    obtain ⟨Ah, Bh, Ch⟩ := h
    unfold hashV
    clear hT hF hv g0 ok
    go_enter Tryf.func3, Tryf.ntmps3
    go_wp2_with fail
    refine (HFx.out _ (HB.out _)).mono ?_; rintro e w' ⟨rfl, rfl⟩
    go_wp2_with fail
    go_ret
    exact ⟨rfl, HB.out _⟩
  have gfP : Fits P := Classical.not_not.1 g0
  clear g0
  have HFP : Hid (∀ W, Below w.heap.size w W → Calls Tryf.prog 14 #[.slice Av P.length cv] W fun e w' => e = .returned (.bool true) ∧ W = w') := Lib.hid (fun W hb => (fits1_c (.slice Av P.length cv) P W (hv.below hb)).mono fun _ _ r => r.yes gfP)
  by_cases g1 : ¬ IsLeaves P
  case pos =>
    have HSx : Hid (∀ W, Below w.heap.size w W → Calls Tryf.prog 15 #[.slice Av P.length cv] W fun e w' => e = .returned (.bool false) ∧ W = w') := Lib.hid (fun W hb => (leaves_c (.slice Av P.length cv) P W (hv.below hb) gfP.1).mono fun _ _ r => r.no g1)
    obtain ⟨Ah, Bh, Ch⟩ := h
    unfold hashV
    clear hT hF hv gfP g1 ok
    go_enter Tryf.func3, Tryf.ntmps3
    go_wp2_with fail
    refine (HFP.out _ (HB.out _)).mono ?_; rintro e w' ⟨rfl, rfl⟩
    go_wp2_with fail
    refine (HSx.out _ (HB.out _)).mono ?_; rintro e w' ⟨rfl, rfl⟩
    go_wp2_with fail
    go_ret
    exact ⟨rfl, HB.out _⟩
  have geP : IsLeaves P := Classical.not_not.1 g1
  clear g1
  have HEP : P.length ≠ 0 → Hid (∀ W, Below w.heap.size w W → Calls Tryf.prog 15 #[.slice Av P.length cv] W fun e w' => e = .returned (.bool true) ∧ W = w') := fun _ => Lib.hid (fun W hb => (leaves_c (.slice Av P.length cv) P W (hv.below hb) gfP.1).mono fun _ _ r => r.yes geP)
  obtain ⟨l1, l2, l3⟩ := geP
  exact main F h ok Av cv P w hF hT hv gfP HFP (by omega) l1 HEP (by omega)
theorem reads (os : Os) {H : Type} (enc : TypeId × Value → H) : ∃ places, DataW.whole enc Tryf.prog ((laidWorld os).forCall (fun _ _ => 0) ⟨#[], #[.agg #[.int .u32 0, .int .u32 0, .int .u32 0], .slice none 0 0], []⟩).memory Tryf.f3.params.toList Rows.fnNewRangeRootSpec.vars false (#[.agg #[.int .u32 0, .int .u32 0, .int .u32 0], .slice none 0 0] : Array Value).toList 8 = some ([.agg [.lit (.int .u32 0), .lit (.int .u32 0), .lit (.int .u32 0)], .nil], [], places) :=
  ⟨[], by kernel_rfl⟩
set_option maxRecDepth 100000 in
theorem contract (F : Stop.Interp) (H : Type) (enc : TypeId × Value → H) (W : World) (base : Nat) (args : Array Value) (ds gs : List (DataW H)) (before : List MemPlace) (hF : F.told.answers W.tape)
    (hval0 : ∀ (j : Nat) t v, Tryf.f3.params[j]? = some t → args[j]? = some v → Value.okWide Tryf.prog W .any base t v)
    (hW : DataW.Whole enc Tryf.prog Tryf.f3.params.toList Rows.fnNewRangeRootSpec.vars false W args.toList ds gs before) (hL : laidMetH Tryf.prog Rows.fnNewRangeRootRow.laid W) :
    Calls Tryf.prog 3 args W fun e W' => ∃ v, e = .returned v ∧ ((OpenSpec.ofChange Rows.fnNewRangeRootSpec).at F.told).post enc Tryf.prog Tryf.f3 false true false false W args v W' := by
  have hval : ∀ (j : Nat) t v, Tryf.f3.params[j]? = some t → args[j]? = some v → Value.okWide Tryf.prog W .any base t v := hval0
  have hW' := hW
  obtain ⟨p, q, hA0, hV, rfl, hfz, hnd⟩ := hW
  have hA : DataW.TrodAll enc Tryf.prog W 0 (fun _ => true) true Tryf.f3.params.toList args.toList ds p := hA0
  rw [Tryf.params3] at hA hval
  obtain ⟨v0, vs0, d0, ds0, p0, q0, hargs, rfl, rfl, h0, r0⟩ := trodAll_cons hA
  obtain ⟨v1, vs1, d1, ds1, p1, q1, rfl, rfl, rfl, h1, r1⟩ := trodAll_cons r0
  obtain ⟨rfl, rfl, rfl⟩ := trodAll_nil r1
  obtain rfl : args = #[v0, v1] := by cases args; simp_all
  obtain ⟨rfl, rfl⟩ := trodVars_none hV
  have k0 := h0
  have lt0 : ∀ x ∈ p0, x.block < W.heap.size := by obtain ⟨m, hm⟩ := k0; exact DataW.trod_lt m _ _ _ hm
  obtain ⟨hh0, rfl, w0⟩ := openHash (hval 0 24 v0 rfl rfl) h0
  have k1 := h1
  have lt1 : ∀ x ∈ p1, x.block < W.heap.size := by obtain ⟨m, hm⟩ := k1; exact DataW.trod_lt m _ _ _ hm
  obtain ⟨L1, w1⟩ := openHashes (hval 1 25 v1 rfl rfl) h1
  refine (walk F.told W hF hh0 w0 v1 L1 w1 (laidIs_of hL)).mono fun e W' ⟨he, bel⟩ => ?_
  subst he
  exact ⟨_, rfl, _, _, _, [], _, [], hW', trodAll_mk1 (shut_bool Tryf.underlying4 _), (trodAll_cons_mk (Below.trod laidOut (by kernel_rfl) (of_decide_eq_true (by kernel_rfl)) k0 bel lt0) (trodAll_cons_mk (Below.trod laidOut (by kernel_rfl) (of_decide_eq_true (by kernel_rfl)) k1 bel lt1) trodAll_mk0)), rfl, bel.frame _, fun h => by cases h⟩
set_option maxRecDepth 100000 in
theorem lifted (os : Os) (started : os.Started) (H : Type) (enc : TypeId × Value → H) :
    ReturnsInTold none {} Tryf.checked os 3 .any Input.okWide ((OpenSpec.ofChange Rows.fnNewRangeRootSpec).preRow enc Tryf.prog Tryf.f3 Rows.fnNewRangeRootRow.domain false Rows.fnNewRangeRootRow.laid) (fun F => ((OpenSpec.ofChange Rows.fnNewRangeRootSpec).at F).post enc Tryf.prog Tryf.f3 false true false false) (aloneAtReturn Tryf.prog) nothingAlways := by
  obtain ⟨places, hx⟩ := reads os enc
  refine returnsInTold_of_row (C := Tryf.checked) (s := OpenSpec.ofChange Rows.fnNewRangeRootSpec) mayEnter own started (by kernel_rfl) Tryf.func3
    (OpenSpec.witness_stopped_at (enc := enc) (C := Tryf.checked) false (laidWorld os) #[.agg #[.int .u32 0, .int .u32 0, .int .u32 0], .slice none 0 0] rfl (by kernel_rfl) (by kernel_rfl) (by kernel_rfl)
      (OpenSpec.preRow_of_cond 8 hx (by kernel_rfl) (fun k hk => by cases hk) (by kernel_rfl) (laid_met os #[.agg #[.int .u32 0, .int .u32 0, .int .u32 0], .slice none 0 0]))) ?_
  intro F W base args ds gs before _ hF hval hW _ _ _ hL _
  exact contract F H enc W base args ds gs before hF hval hW hL
theorem proved : Rows.FnNewRangeRootToldSaid :=
  Claim7.holds_of_told_tied_any_at .later 3 Tryf.f3 "fmt.errorf" [] [] _ _ _ _ _ (by kernel_rfl) rfl rfl rfl laidOut (by kernel_rfl) rfl ⟨rfl, rfl, rfl, rfl, rfl, rfl, rfl⟩ rfl rfl (by kernel_rfl) (by kernel_rfl) Tryf.func3 (by kernel_rfl)
    (of_decide_eq_true (by kernel_rfl)) (by unfold Func.isWrapper; first | (rw [if_pos (by decide +kernel)]; kernel_rfl) | (rw [if_neg (by decide +kernel)]; exact ⟨rfl, rfl⟩)) stopsAre.symm rfl stopKnobs.symm (by kernel_rfl)
    (by kernel_rfl) (by kernel_rfl) (by kernel_rfl) (by kernel_rfl) (by kernel_rfl) (by kernel_rfl) (by kernel_rfl) (by kernel_rfl) (by kernel_rfl) rfl (by kernel_rfl) rfl rfl
    rfl rfl
    rfl mainIs (by kernel_rfl) (by kernel_rfl) (by decide) (by kernel_rfl) fnNewRangeRoot_row_tie
    (OpenClaim.moreEntering_of mayEnter (by kernel_rfl) (by kernel_rfl) (by kernel_rfl) (by kernel_rfl) (by kernel_rfl) (by kernel_rfl) (by kernel_rfl) liftsFinal.symm make)
    ⟨_, WideRow.started_initial, quiet _⟩
    (fun os started _ H enc _ => lifted os started H enc)
end Go.Proofs.YtpdmmmcelkinjaaFmt.fnNewRangeRoot
