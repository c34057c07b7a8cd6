/- The nodes that are told for the root are one less than the hashes of the range, each once, and the last one of them has the hash of the root. -/
import Derived.Test.YtpdmmmcelkinjaaFmtImplApp
import Derived.Test.YtpdmmmcelkinjaaFmtWorks
import Derived.Test.YtpdmmmcelkinjaaFmtSeenAt
import Derived.Test.YtpdmmmcelkinjaaFmtOpenH
namespace Go.Proofs.YtpdmmmcelkinjaaFmt.fnAppendEdgeAll
open Go.ChangeShapes Go.WideShapes Go.ChangeAt Go.RowKit
set_option maxRecDepth 100000
theorem edge_facts (h : Pl.HF) (e : Nat) (H : List (List Nat)) (he : 0 < e) (he2 : e < 18446744073709551616) (hl : H.length = (Pl.pieces 0 e).length) (E : List SeenN) (R : List Nat) (hE0 : E = Pl.edgeAt h 0 e H) (hR0 : R = Pl.rootAt h 0 H) :
    E.length + 1 = H.length ∧ (∀ j k (hj : j < E.length) (hk : k < E.length), j < k → E[j].1 < E[k].1) ∧ ∀ m (hm : m + 1 = E.length), E[m].2.2 = R := by
  subst hE0 hR0
  have hD := Pl.desc_pieces e he2 e 0 64 (by omega) (by omega) (Nat.zero_mod _) (by omega)
  have hP0 : 0 < (Pl.pieces 0 e).length := by
    have := Pl.pos_end _ _ _ hD
    rcases Nat.eq_zero_or_pos (Pl.pieces 0 e).length with h0 | h0
    · rw [List.eq_nil_of_length_eq_zero h0] at this
      have h1 : Pl.pos [] 0 0 = 0 := rfl
      simp [h1] at this
      omega
    · exact h0
  have hE : Pl.edgeAt h 0 e H = Pl.edges h (Pl.pieces 0 e) H 0 := if_pos rfl
  have hR : Pl.rootAt h 0 H = Pl.pfold h H := if_pos rfl
  have hL : (Pl.edges h (Pl.pieces 0 e) H 0).length = (Pl.pieces 0 e).length - 1 := by simp [Pl.edges]
  have hat : ∀ j (hj : j < (Pl.edges h (Pl.pieces 0 e) H 0).length), (Pl.edges h (Pl.pieces 0 e) H 0)[j] = Pl.edge h (Pl.pieces 0 e) H ((Pl.pieces 0 e).length - 2 - j) := fun j hj => by simp [Pl.edges]
  rw [hR]
  simp only [hE]
  refine ⟨by omega, fun j k hj hk hjk => ?_, fun m hm => ?_⟩
  · rw [hat j hj, hat k hk]
    unfold Pl.edge
    simp only []
    have h1 := (Pl.pos_desc _ _ _ hD ((Pl.pieces 0 e).length - 2 - k) (by omega)).2.2.2.2.2 ((Pl.pieces 0 e).length - 2 - j) (by omega) (by omega)
    rw [List.getD_eq_getElem?_getD, List.getD_eq_getElem?_getD, List.getElem?_eq_getElem (by omega), List.getElem?_eq_getElem (by omega)]
    simpa using h1
  · rw [hat m (by omega), show (Pl.pieces 0 e).length - 2 - m = 0 by omega]
    rfl
set_option maxHeartbeats 8000000 in
theorem main (F : Stop.Interp) (h : Pl.HF) (ok : h.ok) (Av : Option Addr) (cv : Nat) (P : List (List Nat)) (w : World) (hF : F.answers w.tape) (hT : Tab w) (hv : HashesR w (.slice Av P.length cv) P) (gfP : Fits P) (HFP : Hid (∀ W, Below w.heap.size w W → Calls Tryf.prog 14 #[.slice Av P.length cv] W fun e w' => e = .returned (.bool true) ∧ W = w')) (hn : P.length ≤ 200) (h2 : ∀ x ∈ P, x.length = 2) (HEP : P.length ≠ 0 → Hid (∀ W, Below w.heap.size w W → Calls Tryf.prog 15 #[.slice Av P.length cv] W fun e w' => e = .returned (.bool true) ∧ W = w')) (hpos : P.length ≠ 0) :
    Calls Tryf.prog 5 #[hashV h, .slice Av P.length cv] w fun e w' => e = .returned (.bool true) ∧ Below w.heap.size w w' := by
  have HB := Lib.hid (fun C => (Below.refl w.heap.size w).alloc (Nat.le_refl _) (.cells C 24))
  have HAP := Lib.hid (fun W (hW : Below w.heap.size w W) => append_d F h ok 0 (.slice Av P.length cv) P W (ans_below hF hW) (hv.below hW) h2 (by omega) (by omega) (hT.below hW))
  have HV := Lib.hid hv
  have HT := Lib.hid hT
  have HF := Lib.hid hF
  have HOK := Lib.hid ok
  have H22 := Lib.hid h2
  have HGF := Lib.hid gfP
  have HN := Lib.hid hn
  have hn1 : (P.length : Int) ≤ 200 := by omega
  clear hv hT hF ok h2 gfP
  have HE1 := HEP hpos
  have hz1 : (0 : Int) < (P.length : Int) := by omega
  clear HEP hn
  generalize hnn : P.length = n at *
  have HNN := Lib.hid hnn
  clear hnn
  obtain ⟨Ah, Bh, Ch⟩ := h
  unfold hashV
  go_enter Tryf.func5, Tryf.ntmps5
  go_wp2_with fail
  refine (HFP.out _ (HB.out _)).mono ?_; rintro e w' ⟨rfl, rfl⟩
  go_wp2_with fail
  refine (HE1.out _ (HB.out _)).mono ?_; rintro e w' ⟨rfl, rfl⟩
  go_wp2_with fail
  refine (HAP.out _ (HB.out _)).mono ?_; rintro r w3 ⟨A2, Ar, A6, A7, c2, nr, cr, c6, c7, nH, nG, nE, e, kb, H, R, G, E, rfl, HEQ, HK, hb3⟩
  have HKH : Hid (Blk w3 w.heap.size 24 #[.int .u32 (Ah : Int), .int .u32 (Bh : Int), .int .u32 (Ch : Int)]) := Lib.hid ((Blk.new w _ _).below' hb3)
  have HB3 := Lib.hid ((HB.out _).trans (hb3.mono (HB.out _).size))
  clear hb3
  have HEF := Lib.hid (edge_facts ⟨Ah, Bh, Ch⟩ e H (by have h1 := HEQ.out.1; omega) (by have h1 := HEQ.out.1; have h2 := HN.out; omega) (by rw [HEQ.out.2.2.1, Pl.ph_length, HEQ.out.1]) E R (by rw [HEQ.out.1]; exact HEQ.out.2.2.2.2.2.1) HEQ.out.2.2.2.1)
  have hnE : nE + 1 = nH := by rw [HEQ.out.2.2.2.2.2.2.2.2.2, HEQ.out.2.2.2.2.2.2.1]; exact HEF.out.1
  have hnE2 : nE = E.length := HEQ.out.2.2.2.2.2.2.2.2.2
  have hnH : nH ≤ 1000 := by
    rw [HEQ.out.2.2.2.2.2.2.1, HEQ.out.2.2.1, Pl.ph_length]
    have := Pl.pieces_len 0 (0 + n) (by have := HN.out; omega)
    omega
  have HLV := Lib.hid HEF.out.2.1
  have HLA := Lib.hid HEF.out.2.2
  subst hnE2
  have t1 : IntKind.i64.wrap ((nH : Int) - 1) = (E.length : Int) := by
    have h1 : ((nH : Int) - 1) = ((E.length : Nat) : Int) := by omega
    rw [h1, IntKind.wrap_i64]; omega
  have t2 : ¬ (nH : Int) = 0 := by omega
  have t3 : ((nH : Int) == 0) = false := beq_eq_false_iff_ne.2 t2
  have hEl : E.length ≤ 1000 := by omega
  clear hnE hnH HEF
  have BA : Below w3.heap.size w3 (w3.alloc (.cells #[.int .u64 0, .int .u64 (e : Int), .slice A2 nH c2, .slice Ar nr cr, .bool kb, .slice A6 nG c6, .slice A7 E.length c7] 31)) := (Below.refl _ _).alloc (Nat.le_refl _) _
  have HKR := Lib.hid (Blk.new w3 31 #[.int .u64 0, .int .u64 (e : Int), .slice A2 nH c2, .slice Ar nr cr, .bool kb, .slice A6 nG c6, .slice A7 E.length c7])
  have HSE := Lib.hid (HK.out.2.2.2.below BA)
  have HRR := Lib.hid (HK.out.2.1.1.below BA)
  have HB4 := Lib.hid (HB3.out.trans (BA.mono HB3.out.size))
  clear BA HK
  go_wp2_with fail
  generalize w3.alloc (.cells #[.int .u64 0, .int .u64 (e : Int), .slice A2 nH c2, .slice Ar nr cr, .bool kb, .slice A6 nG c6, .slice A7 E.length c7] 31) = W0 at *
  clear t1 t2 t3
  go_loopw [7, 8, 42] (fun _ _ kv wr => ∃ k : Nat, k ≤ E.length ∧ kv = .int .i64 (k : Int) ∧ Below W0.heap.size W0 wr) (fun _ _ kv _ => E.length - (intOf kv).toNat)
  case atStart => exact ⟨0, Nat.zero_le _, rfl, Below.refl _ _⟩
  case round =>
    obtain ⟨k, hk, rfl, hB⟩ := hrel
    by_cases hkl : k < E.length
    · obtain ⟨gE, cE, eA, hcE, hat⟩ := HSE.out.at (by omega)
      injection eA with eA1 eA2 eA3
      subst eA1 eA3
      clear eA2
      obtain ⟨uk, c0, c1, _, _⟩ := hat k hkl
      have HAT := Lib.hid hat
      have HLk := Lib.hid (fun j (hj : j < E.length) (hjk : j < k) => HLV.out j k hj hkl hjk)
      have HC0 := Lib.hid c0
      have HC1 := Lib.hid c1
      have hk1 : (k : Int) < (E.length : Int) := by omega
      have hk0 : (0 : Int) ≤ (k : Int) := by omega
      clear hat c0 c1
      generalize E[k].1 = lk at *
      generalize E[k].2.1 = ik at *
      go_wp2_with fail
      obtain ⟨wo, rfl⟩ : ∃ wo : World, wo = wr := ⟨_, rfl⟩
      go_loopw [8] (fun jv wi => ∃ j : Nat, j ≤ k ∧ jv = .int .i64 (j : Int) ∧ Below W0.heap.size W0 wi) (fun jv _ => k - (intOf jv).toNat)
      case atStart => exact ⟨0, Nat.zero_le _, rfl, hB⟩
      case round =>
        obtain ⟨j, hj, rfl, hW⟩ := hrel
        by_cases hjl : j < k
        · obtain ⟨uj, d0, d1, _, _⟩ := HAT.out j (by omega)
          have hlt := HLk.out j (by omega) hjl
          generalize E[j].1 = lj at *
          generalize E[j].2.1 = ij at *
          have hne : ¬ (lj : Int) = (lk : Int) := by omega
          have hj1 : (j : Int) < (k : Int) := by omega
          have hj2 : (j : Int) < (E.length : Int) := by omega
          have hj0 : (0 : Int) ≤ (j : Int) := by omega
          have S0 : wr.drew.cell? ⟨w3.heap.size, 6, none⟩ = some (.slice (some ⟨gE, 0, none⟩) E.length c7) ∧ wr.drew.cell? ⟨gE, j * 3, none⟩ = some (.int .u64 (lj : Int)) ∧ wr.drew.cell? ⟨gE, j * 3 + 1, none⟩ = some (.int .u64 (ij : Int)) ∧ wr.drew.cell? ⟨gE, k * 3, none⟩ = some (.int .u64 (lk : Int)) ∧ wr.drew.cell? ⟨gE, k * 3 + 1, none⟩ = some (.int .u64 (ik : Int)) :=
            have up : ∀ {p : Addr} {v : Value}, W0.cell? p = some v → wr.drew.cell? p = some v := fun {p} {_} h => (hW.drew.cell (World.block_lt_of_cell? W0 p h)).trans h
            ⟨up (HKR.out.cell 6), up d0, up d1, up HC0.out, up HC1.out⟩
          have hW2 : Below W0.heap.size W0 wr.drew := hW.drew
          clear d0 d1 hlt
          go_wp2_with fail
          go_region_held3 (fun w' => w'.cell? ⟨w3.heap.size, 6, none⟩ = some (.slice (some ⟨gE, 0, none⟩) E.length c7) ∧ w'.cell? ⟨gE, j * 3, none⟩ = some (.int .u64 (lj : Int)) ∧ w'.cell? ⟨gE, j * 3 + 1, none⟩ = some (.int .u64 (ij : Int)) ∧ w'.cell? ⟨gE, k * 3, none⟩ = some (.int .u64 (lk : Int)) ∧ w'.cell? ⟨gE, k * 3 + 1, none⟩ = some (.int .u64 (ik : Int)))
            (first | assumption | exact S0 | fail)
            (fail)
          all_goals
            go_wp2_with fail
            go_roundw
            case rel => exact ⟨j + 1, by omega, by go_num, hW2⟩
            case measure => simp [intOf] <;> omega
        · have hj1 : ¬ (j : Int) < (k : Int) := by omega
          go_wp2_with fail
          go_roundw
          case rel => exact ⟨k + 1, by omega, by go_num, hW⟩
          case measure => simp [intOf] <;> omega
    · have hk1 : ¬ (k : Int) < (E.length : Int) := by omega
      have hB2 := hB.drew
      have BF : Below w.heap.size w wr.drew := HB4.out.trans (hB2.mono HB4.out.size)
      have S6 : wr.drew.cell? ⟨w3.heap.size, 6, none⟩ = some (.slice A7 E.length c7) := (hB2.cell (World.block_lt_of_cell? W0 _ (HKR.out.cell 6))).trans (HKR.out.cell 6)
      have S3 : wr.drew.cell? ⟨w3.heap.size, 3, none⟩ = some (.slice Ar nr cr) := (hB2.cell (World.block_lt_of_cell? W0 _ (HKR.out.cell 3))).trans (HKR.out.cell 3)
      by_cases hE0 : E.length = 0
      · clear HLV HLA
        have t5 : ((E.length : Int) == 0) = true := by rw [hE0]; rfl
        have t6 : decide ((E.length : Int) = 0) = true := by rw [hE0]; rfl
        have S6w : wr.cell? ⟨w3.heap.size, 6, none⟩ = some (.slice A7 E.length c7) := (hB.cell (World.block_lt_of_cell? W0 _ (HKR.out.cell 6))).trans (HKR.out.cell 6)
        clear S6 S3
        clear hE0 hkl hk hEl
        generalize E.length = nE at *
        go_wp2_with fail
        go_quiet (fail)
        all_goals
          go_wp2_with fail
          go_ret
          exact ⟨by first | rfl | (simp <;> omega), HB4.out.trans ((below_drewN hB _).mono HB4.out.size)⟩
      · obtain ⟨m, hm⟩ : ∃ m, m + 1 = E.length := ⟨E.length - 1, by omega⟩
        obtain ⟨gE, cE, eA, hcE, hat⟩ := HSE.out.at (by omega)
        injection eA with eA1 eA2 eA3
        subst eA1 eA3
        clear eA2
        obtain ⟨um, hx1, hx2, c2', b2⟩ := hat m (by omega)
        clear hx1 hx2
        rw [HLA.out m hm] at b2
        have z0 := (b2.1.below hB2).str
        have z1 := (HRR.out.below hB2).str
        have S2 := (hB2.cell (World.block_lt_of_cell? W0 _ c2')).trans c2'
        have t1 : IntKind.i64.wrap ((E.length : Int) - 1) = (m : Int) := by
          have h1 : ((E.length : Int) - 1) = ((m : Nat) : Int) := by omega
          rw [h1, IntKind.wrap_i64]; omega
        have t2 : (m : Int) < (E.length : Int) := by omega
        have t3 : (0 : Int) ≤ (m : Int) := by omega
        have t4 : ¬ (E.length : Int) = 0 := by omega
        have t5 : ((E.length : Int) == 0) = false := beq_eq_false_iff_ne.2 t4
        have t6 : decide ((E.length : Int) = 0) = false := decide_eq_false t4
        obtain ⟨Au, nu, cu, rfl⟩ : ∃ A n c, um = .slice A n c := by obtain ⟨A, c, e, _⟩ := b2.1; exact ⟨A, _, c, e⟩
        clear hat b2 c2' hm HLV HLA
        generalize E.length = nE at *
        go_wp2_with fail
        go_region_held_law (fun w' => w'.cell? ⟨w3.heap.size, 6, none⟩ = some (.slice (some ⟨gE, 0, none⟩) nE c7) ∧ w'.cell? ⟨w3.heap.size, 3, none⟩ = some (.slice Ar nr cr) ∧ w'.cell? ⟨gE, m * 3 + 2, none⟩ = some (.slice Au nu cu)) (first | assumption | exact ⟨S6, S3, S2⟩ | fail) (fail)
        all_goals
          go_wp2_with fail
          go_ret
          exact ⟨by first | rfl | (simp <;> omega), BF⟩
set_option maxHeartbeats 4000000 in
theorem walk (F : Stop.Interp) (w : World) (hF : F.answers w.tape) (h : Pl.HF) (ok : h.ok) (v : Value) (P : List (List Nat)) (hv : HashesR w v P) (hT : LaidIs w) :
    Calls Tryf.prog 5 #[hashV h, v] w fun e w' => e = .returned (.bool true) ∧ Below w.heap.size w w' := by
  have HB := Lib.hid (fun C => (Below.refl w.heap.size w).alloc (Nat.le_refl _) (.cells C 24))
  obtain ⟨Av, cv, ev, h9v⟩ := id hv
  clear h9v
  subst ev
  by_cases g0 : ¬ Fits P
  case pos =>
    have HFx : Hid (∀ W, Below w.heap.size w W → Calls Tryf.prog 14 #[.slice Av P.length cv] W fun e w' => e = .returned (.bool false) ∧ W = w') := Lib.hid (fun W hb => (fits1_c (.slice Av P.length cv) P W (hv.below hb)).mono fun _ _ r => r.no g0)
    obtain ⟨Ah, Bh, Ch⟩ := h
    unfold hashV
    clear hT hF hv g0 ok
    go_enter Tryf.func5, Tryf.ntmps5
    go_wp2_with fail
    refine (HFx.out _ (HB.out _)).mono ?_; rintro e w' ⟨rfl, rfl⟩
    go_wp2_with fail
    go_ret
    exact ⟨rfl, HB.out _⟩
  have gfP : Fits P := Classical.not_not.1 g0
  clear g0
  have HFP : Hid (∀ W, Below w.heap.size w W → Calls Tryf.prog 14 #[.slice Av P.length cv] W fun e w' => e = .returned (.bool true) ∧ W = w') := Lib.hid (fun W hb => (fits1_c (.slice Av P.length cv) P W (hv.below hb)).mono fun _ _ r => r.yes gfP)
  by_cases g1 : ¬ IsLeaves P
  case pos =>
    have HSx : Hid (∀ W, Below w.heap.size w W → Calls Tryf.prog 15 #[.slice Av P.length cv] W fun e w' => e = .returned (.bool false) ∧ W = w') := Lib.hid (fun W hb => (leaves_c (.slice Av P.length cv) P W (hv.below hb) gfP.1).mono fun _ _ r => r.no g1)
    obtain ⟨Ah, Bh, Ch⟩ := h
    unfold hashV
    clear hT hF hv gfP g1 ok
    go_enter Tryf.func5, Tryf.ntmps5
    go_wp2_with fail
    refine (HFP.out _ (HB.out _)).mono ?_; rintro e w' ⟨rfl, rfl⟩
    go_wp2_with fail
    refine (HSx.out _ (HB.out _)).mono ?_; rintro e w' ⟨rfl, rfl⟩
    go_wp2_with fail
    go_ret
    exact ⟨rfl, HB.out _⟩
  have geP : IsLeaves P := Classical.not_not.1 g1
  clear g1
  have HEP : P.length ≠ 0 → Hid (∀ W, Below w.heap.size w W → Calls Tryf.prog 15 #[.slice Av P.length cv] W fun e w' => e = .returned (.bool true) ∧ W = w') := fun _ => Lib.hid (fun W hb => (leaves_c (.slice Av P.length cv) P W (hv.below hb) gfP.1).mono fun _ _ r => r.yes geP)
  obtain ⟨l1, l2, l3⟩ := geP
  exact main F h ok Av cv P w hF hT hv gfP HFP (by omega) l1 HEP (by omega)
theorem reads (os : Os) {H : Type} (enc : TypeId × Value → H) : ∃ places, DataW.whole enc Tryf.prog ((laidWorld os).forCall (fun _ _ => 0) ⟨#[], #[.agg #[.int .u32 0, .int .u32 0, .int .u32 0], .slice none 0 0], []⟩).memory Tryf.f5.params.toList Rows.fnAppendEdgeAllSpec.vars false (#[.agg #[.int .u32 0, .int .u32 0, .int .u32 0], .slice none 0 0] : Array Value).toList 8 = some ([.agg [.lit (.int .u32 0), .lit (.int .u32 0), .lit (.int .u32 0)], .nil], [], places) :=
  ⟨[], by kernel_rfl⟩
set_option maxRecDepth 100000 in
theorem contract (F : Stop.Interp) (H : Type) (enc : TypeId × Value → H) (W : World) (base : Nat) (args : Array Value) (ds gs : List (DataW H)) (before : List MemPlace) (hF : F.told.answers W.tape)
    (hval0 : ∀ (j : Nat) t v, Tryf.f5.params[j]? = some t → args[j]? = some v → Value.okWide Tryf.prog W .any base t v)
    (hW : DataW.Whole enc Tryf.prog Tryf.f5.params.toList Rows.fnAppendEdgeAllSpec.vars false W args.toList ds gs before) (hL : laidMetH Tryf.prog Rows.fnAppendEdgeAllRow.laid W) :
    Calls Tryf.prog 5 args W fun e W' => ∃ v, e = .returned v ∧ ((OpenSpec.ofChange Rows.fnAppendEdgeAllSpec).at F.told).post enc Tryf.prog Tryf.f5 false true false false W args v W' := by
  have hval : ∀ (j : Nat) t v, Tryf.f5.params[j]? = some t → args[j]? = some v → Value.okWide Tryf.prog W .any base t v := hval0
  have hW' := hW
  obtain ⟨p, q, hA0, hV, rfl, hfz, hnd⟩ := hW
  have hA : DataW.TrodAll enc Tryf.prog W 0 (fun _ => true) true Tryf.f5.params.toList args.toList ds p := hA0
  rw [Tryf.params5] at hA hval
  obtain ⟨v0, vs0, d0, ds0, p0, q0, hargs, rfl, rfl, h0, r0⟩ := trodAll_cons hA
  obtain ⟨v1, vs1, d1, ds1, p1, q1, rfl, rfl, rfl, h1, r1⟩ := trodAll_cons r0
  obtain ⟨rfl, rfl, rfl⟩ := trodAll_nil r1
  obtain rfl : args = #[v0, v1] := by cases args; simp_all
  obtain ⟨rfl, rfl⟩ := trodVars_none hV
  have k0 := h0
  have lt0 : ∀ x ∈ p0, x.block < W.heap.size := by obtain ⟨m, hm⟩ := k0; exact DataW.trod_lt m _ _ _ hm
  obtain ⟨hh0, rfl, w0⟩ := openHash (hval 0 24 v0 rfl rfl) h0
  have k1 := h1
  have lt1 : ∀ x ∈ p1, x.block < W.heap.size := by obtain ⟨m, hm⟩ := k1; exact DataW.trod_lt m _ _ _ hm
  obtain ⟨L1, w1⟩ := openHashes (hval 1 25 v1 rfl rfl) h1
  refine (walk F.told W hF hh0 w0 v1 L1 w1 (laidIs_of hL)).mono fun e W' ⟨he, bel⟩ => ?_
  subst he
  exact ⟨_, rfl, _, _, _, [], _, [], hW', trodAll_mk1 (shut_bool Tryf.underlying4 _), (trodAll_cons_mk (Below.trod laidOut (by kernel_rfl) (of_decide_eq_true (by kernel_rfl)) k0 bel lt0) (trodAll_cons_mk (Below.trod laidOut (by kernel_rfl) (of_decide_eq_true (by kernel_rfl)) k1 bel lt1) trodAll_mk0)), rfl, bel.frame _, fun h => by cases h⟩
set_option maxRecDepth 100000 in
theorem lifted (os : Os) (started : os.Started) (H : Type) (enc : TypeId × Value → H) :
    ReturnsInTold none {} Tryf.checked os 5 .any Input.okWide ((OpenSpec.ofChange Rows.fnAppendEdgeAllSpec).preRow enc Tryf.prog Tryf.f5 Rows.fnAppendEdgeAllRow.domain false Rows.fnAppendEdgeAllRow.laid) (fun F => ((OpenSpec.ofChange Rows.fnAppendEdgeAllSpec).at F).post enc Tryf.prog Tryf.f5 false true false false) (aloneAtReturn Tryf.prog) nothingAlways := by
  obtain ⟨places, hx⟩ := reads os enc
  refine returnsInTold_of_row (C := Tryf.checked) (s := OpenSpec.ofChange Rows.fnAppendEdgeAllSpec) mayEnter own started (by kernel_rfl) Tryf.func5
    (OpenSpec.witness_stopped_at (enc := enc) (C := Tryf.checked) false (laidWorld os) #[.agg #[.int .u32 0, .int .u32 0, .int .u32 0], .slice none 0 0] rfl (by kernel_rfl) (by kernel_rfl) (by kernel_rfl)
      (OpenSpec.preRow_of_cond 8 hx (by kernel_rfl) (fun k hk => by cases hk) (by kernel_rfl) (laid_met os #[.agg #[.int .u32 0, .int .u32 0, .int .u32 0], .slice none 0 0]))) ?_
  intro F W base args ds gs before _ hF hval hW _ _ _ hL _
  exact contract F H enc W base args ds gs before hF hval hW hL
theorem proved : Rows.FnAppendEdgeAllToldSaid :=
  Claim7.holds_of_told_tied_any_at .later 5 Tryf.f5 "fmt.errorf" [] [] _ _ _ _ _ (by kernel_rfl) rfl rfl rfl laidOut (by kernel_rfl) rfl ⟨rfl, rfl, rfl, rfl, rfl, rfl, rfl⟩ rfl rfl (by kernel_rfl) (by kernel_rfl) Tryf.func5 (by kernel_rfl)
    (of_decide_eq_true (by kernel_rfl)) (by unfold Func.isWrapper; first | (rw [if_pos (by decide +kernel)]; kernel_rfl) | (rw [if_neg (by decide +kernel)]; exact ⟨rfl, rfl⟩)) stopsAre.symm rfl stopKnobs.symm (by kernel_rfl)
    (by kernel_rfl) (by kernel_rfl) (by kernel_rfl) (by kernel_rfl) (by kernel_rfl) (by kernel_rfl) (by kernel_rfl) (by kernel_rfl) (by kernel_rfl) rfl (by kernel_rfl) rfl rfl
    rfl rfl
    rfl mainIs (by kernel_rfl) (by kernel_rfl) (by decide) (by kernel_rfl) fnAppendEdgeAll_row_tie
    (OpenClaim.moreEntering_of mayEnter (by kernel_rfl) (by kernel_rfl) (by kernel_rfl) (by kernel_rfl) (by kernel_rfl) (by kernel_rfl) (by kernel_rfl) liftsFinal.symm make)
    ⟨_, WideRow.started_initial, quiet _⟩
    (fun os started _ H enc _ => lifted os started H enc)
end Go.Proofs.YtpdmmmcelkinjaaFmt.fnAppendEdgeAll
