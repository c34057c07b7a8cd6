/- Each node that is told for the root is one of an imperfect tree at the right border, with its hash. -/
import Derived.Test.YtpdmmmcelkinjaaFmtImplApp
import Derived.Test.YtpdmmmcelkinjaaFmtWorks
import Derived.Test.YtpdmmmcelkinjaaFmtSeenAt
import Derived.Test.YtpdmmmcelkinjaaFmtPieceH
import Derived.Test.YtpdmmmcelkinjaaFmtNode
import Derived.Test.YtpdmmmcelkinjaaFmtOpenH
namespace Go.Proofs.YtpdmmmcelkinjaaFmt.fnAppendEdge
open Go.ChangeShapes Go.WideShapes Go.ChangeAt Go.RowKit
set_option maxRecDepth 100000
theorem leaves_from (h : Pl.HF) (ok : h.ok) (W0 : World) (A : Option Addr) (n cap a : Nat) (L : List (List Nat)) (hv0 : HashesR W0 (.slice A n cap) L) (ha : a < L.length) (hL : L.length ≤ 1000) : ∃ v1,
    (∀ W, (Instr.slice 25 (.slice A n cap) (some (.int .u64 (a : Int))) none none).run Tryf.prog W = .ok v1 W) ∧ (∃ B m c, v1 = .slice B m c) ∧
    ∀ w, Below W0.heap.size W0 w → Calls Tryf.prog 18 #[hashV h, v1] w (RetBytesE W0.heap.size w (Pl.mr h (Pl.atL L) a (L.length - a))) := by
  have hn : n = L.length := by
    obtain ⟨A', cap', e, _, _⟩ := hv0
    injection e with e1 e2 e3
  refine ⟨.slice (if cap = a then A else A.map (·.add (a * 1))) (n - a) (cap - a), fun W => ?_, ⟨_, _, _, rfl⟩, fun w hb => ?_⟩
  · rw [run_slice_l W 25 _ _ _ (by rw [elemHashes]; exact Tryf.underlying25) .u64 (a : Int) (by omega) (by omega), elemHashes, sizeBytes]
    rfl
  · have hp := hv0.tail (k := a) (by omega)
    have hm := Pl.mth_part h L a (L.length - a) (by omega) (by omega)
    rw [List.take_of_length_le (by simp)] at hm
    have := mth_e h ok W0 (L.length - a) _ _ w (by simp) (by omega) (by omega) hp hb
    rwa [hm] at this
theorem cover_at {l i : Nat} (hl : l ≤ 20) (hi : i * 2 ^ l ≤ 200) (w : World) :
    Calls Tryf.prog 25 #[(.agg #[.int .u64 (l : Int), .int .u64 (i : Int)])] w fun e w' => e = .returned (.tuple #[.int .u64 ((i * 2 ^ l : Nat) : Int), .int .u64 (((i + 1) * 2 ^ l : Nat) : Int)]) ∧ Below w.heap.size w w' := by
  have hp : 2 ^ l ≤ 2 ^ 20 := Nat.pow_le_pow_right (by omega) hl
  have h0 : 0 < 2 ^ l := Nat.two_pow_pos l
  have hi2 : i ≤ 200 := Nat.le_trans (Nat.le_mul_of_pos_right i h0) hi
  have hs : (i + 1) * 2 ^ l = i * 2 ^ l + 2 ^ l := Nat.succ_mul _ _
  have := implCoverage (l : Int) (i : Int) (by omega) (by omega) w
  have e1 := wrapN (i * 2 ^ l) (by omega)
  have e2 := wrapN ((i + 1) * 2 ^ l) (by omega)
  have e3 : IntKind.u64.wrap ((i : Int) + 1) = ((i + 1 : Nat) : Int) := by have := wrapN (i + 1) (by omega); simpa using this
  rw [Int.toNat_natCast, e3, show (i : Int) * 2 ^ l = ((i * 2 ^ l : Nat) : Int) by simp, show ((i + 1 : Nat) : Int) * 2 ^ l = (((i + 1) * 2 ^ l : Nat) : Int) by simp, e1, e2] at this
  exact this
theorem perfect200 : ((List.range 201).all fun n => n == 0 || ((n &&& (n - 1) == 0) == ((Pl.pieces 0 n).length == 1))) = true := by kernel_rfl
theorem edge_facts (h : Pl.HF) (f : Nat → List Nat) (e : Nat) (H : List (List Nat)) (he : 0 < e) (he2 : e ≤ 200) (hH : H = Pl.ph h f 0 e) (E : List SeenN) (hE0 : E = Pl.edgeAt h 0 e H) :
    (E.length = 0 ↔ e &&& (e - 1) = 0) ∧ E.length ≤ 1000 ∧ ∀ k (hk : k < E.length), E[k].1 ≤ 20 ∧ E[k].2.1 * 2 ^ E[k].1 < e ∧ e < (E[k].2.1 + 1) * 2 ^ E[k].1 ∧ E[k].2.2 = Pl.mr h f (E[k].2.1 * 2 ^ E[k].1) (e - E[k].2.1 * 2 ^ E[k].1) := by
  subst hE0 hH
  have hD := Pl.desc_pieces e (by omega) e 0 64 (by omega) (by omega) (Nat.zero_mod _) (by omega)
  have hpl := Pl.pieces_len 0 e (by omega)
  have hP0 : 0 < (Pl.pieces 0 e).length := by
    have := Pl.pos_end _ _ _ hD
    rcases Nat.eq_zero_or_pos (Pl.pieces 0 e).length with h0 | h0
    · rw [List.eq_nil_of_length_eq_zero h0] at this
      have h1 : Pl.pos [] 0 0 = 0 := rfl
      simp [h1] at this
      omega
    · exact h0
  have hE : Pl.edgeAt h 0 e (Pl.ph h f 0 e) = Pl.edges h (Pl.pieces 0 e) (Pl.ph h f 0 e) 0 := if_pos rfl
  have hL : (Pl.edges h (Pl.pieces 0 e) (Pl.ph h f 0 e) 0).length = (Pl.pieces 0 e).length - 1 := by simp [Pl.edges]
  have hat : ∀ j (hj : j < (Pl.edges h (Pl.pieces 0 e) (Pl.ph h f 0 e) 0).length), (Pl.edges h (Pl.pieces 0 e) (Pl.ph h f 0 e) 0)[j] = Pl.edge h (Pl.pieces 0 e) (Pl.ph h f 0 e) ((Pl.pieces 0 e).length - 2 - j) := fun j hj => by simp [Pl.edges]
  simp only [hE]
  have hpf := List.all_eq_true.1 perfect200 e (List.mem_range.2 (by omega))
  refine ⟨?_, by omega, fun k hk => ?_⟩
  · rw [hL]
    have hz : (e == 0) = false := beq_eq_false_iff_ne.2 (by omega)
    rw [hz, Bool.false_or, beq_iff_eq] at hpf
    constructor
    · intro h1
      have h2 : ((Pl.pieces 0 e).length == 1) = true := by simp; omega
      rw [h2] at hpf
      simpa using hpf
    · intro h1
      have h2 : (e &&& (e - 1) == 0) = true := by simpa using h1
      rw [h2] at hpf
      have := hpf.symm
      simp at this
      omega
  · obtain ⟨l, i, h1, h2, h3, h4, h5⟩ := Pl.edge_spec h f e (by omega) ((Pl.pieces 0 e).length - 2 - k) (by omega)
    rw [hat k hk, h1]
    refine ⟨?_, h3, h4, rfl⟩
    have h6 := (Pl.pos_desc _ _ _ hD ((Pl.pieces 0 e).length - 2 - k) (by omega)).2.2.2.1
    rw [List.getD_eq_getElem?_getD, List.getElem?_eq_getElem (by omega)] at h5
    simp only [Option.getD_some] at h5
    show l ≤ 20
    rw [h5]
    rcases Nat.lt_or_ge (Pl.pieces 0 e)[(Pl.pieces 0 e).length - 2 - k].1 20 with hh | hh
    · omega
    · have := Nat.pow_le_pow_right (show 0 < 2 by omega) hh
      omega
abbrev SD (w : World) (gB : Nat) (x1 x2 x3 uv : Value) (u : List Nat) (w' : World) : Prop := w'.cell? ⟨w.heap.size, 0, none⟩ = some x1 ∧ w'.cell? ⟨w.heap.size, 1, none⟩ = some x2 ∧ w'.cell? ⟨w.heap.size, 2, none⟩ = some x3 ∧ w'.cell? ⟨gB, 2, none⟩ = some uv ∧ BytesR w' uv u
theorem keepD {w W w' : World} {gB : Nat} {x1 x2 x3 uv : Value} {u : List Nat} (hb : Below W.heap.size W w') (h : SD w gB x1 x2 x3 uv u W) : SD w gB x1 x2 x3 uv u w' :=
  have up : ∀ {p : Addr} {v : Value}, W.cell? p = some v → w'.cell? p = some v := fun {p} {_} h => (hb.cell (World.block_lt_of_cell? W p h)).trans h
  ⟨up h.1, up h.2.1, up h.2.2.1, up h.2.2.2.1, h.2.2.2.2.below hb⟩
set_option maxHeartbeats 8000000 in
theorem main (F : Stop.Interp) (h : Pl.HF) (ok : h.ok) (Av : Option Addr) (cv : Nat) (P : List (List Nat)) (w : World) (hF : F.answers w.tape) (hT : Tab w) (hv : HashesR w (.slice Av P.length cv) P) (gfP : Fits P) (HFP : Hid (∀ W, Below w.heap.size w W → Calls Tryf.prog 14 #[.slice Av P.length cv] W fun e w' => e = .returned (.bool true) ∧ W = w')) (hn : P.length ≤ 200) (h2 : ∀ x ∈ P, x.length = 2) (HEP : P.length ≠ 0 → Hid (∀ W, Below w.heap.size w W → Calls Tryf.prog 15 #[.slice Av P.length cv] W fun e w' => e = .returned (.bool true) ∧ W = w')) (hpos : P.length ≠ 0) :
    Calls Tryf.prog 10 #[hashV h, .slice Av P.length cv] w fun e w' => e = .returned (.bool true) ∧ Below w.heap.size w w' := by
  have HB := Lib.hid (fun C => (Below.refl w.heap.size w).alloc (Nat.le_refl _) (.cells C 24))
  have HAP := Lib.hid (fun W (hW : Below w.heap.size w W) => append_d F h ok 0 (.slice Av P.length cv) P W (ans_below hF hW) (hv.below hW) h2 (by omega) (by omega) (hT.below hW))
  have HV := Lib.hid hv
  have HT := Lib.hid hT
  have HF := Lib.hid hF
  have HOK := Lib.hid ok
  have H22 := Lib.hid h2
  have HGF := Lib.hid gfP
  have HN := Lib.hid hn
  have hn1 : (P.length : Int) ≤ 200 := by omega
  clear hv hT hF ok h2 gfP
  have HE1 := HEP hpos
  have hz1 : (0 : Int) < (P.length : Int) := by omega
  clear HEP hn
  generalize hnn : P.length = n at *
  have HNN := Lib.hid hnn
  clear hnn
  obtain ⟨Ah, Bh, Ch⟩ := h
  unfold hashV
  go_enter Tryf.func10, Tryf.ntmps10
  go_wp2_with fail
  refine (HFP.out _ (HB.out _)).mono ?_; rintro e w' ⟨rfl, rfl⟩
  go_wp2_with fail
  refine (HE1.out _ (HB.out _)).mono ?_; rintro e w' ⟨rfl, rfl⟩
  go_wp2_with fail
  refine (HAP.out _ (HB.out _)).mono ?_; rintro r w3 ⟨A2, Ar, A6, A7, c2, nr, cr, c6, c7, nH, nG, nE, e, kb, H, R, G, E, rfl, HEQ, HK, hb3⟩
  have HKH : Hid (Blk w3 w.heap.size 24 #[.int .u32 (Ah : Int), .int .u32 (Bh : Int), .int .u32 (Ch : Int)]) := Lib.hid ((Blk.new w _ _).below' hb3)
  have HB3 := Lib.hid ((HB.out _).trans (hb3.mono (HB.out _).size))
  clear hb3
  have HEF := Lib.hid (edge_facts ⟨Ah, Bh, Ch⟩ (Pl.lv P 0) e H (by have h1 := HEQ.out.1; omega) (by have h1 := HEQ.out.1; have h2 := HN.out; omega) (by rw [HEQ.out.1]; exact HEQ.out.2.2.1) E (by rw [HEQ.out.1]; exact HEQ.out.2.2.2.2.2.1))
  have hnE2 : nE = E.length := HEQ.out.2.2.2.2.2.2.2.2.2
  obtain rfl : e = n := by rw [HEQ.out.1]; exact Nat.zero_add _
  subst hnE2
  rw [lv_zero] at HEF
  have hEl : E.length ≤ 1000 := HEF.out.2.1
  have HSP := Lib.hid HEF.out.2.2
  have HLF := Lib.hid (fun a (ha : a < e) => leaves_from ⟨Ah, Bh, Ch⟩ HOK.out w Av e cv a P HV.out (by rw [HNN.out]; exact ha) (by have := HN.out; rw [HNN.out]; omega))
  rw [HNN.out] at HLF
  unfold hashV at HLF
  simp only [] at HLF
  have t0 : IntKind.u64.wrap (e : Int) = (e : Int) := wrapN e (by have := HN.out; omega)
  have t1 : IntKind.u64.wrap ((e : Int) - 1) = ((e - 1 : Nat) : Int) := by
    have h1 := wrapN (e - 1) (by have := HN.out; omega)
    rw [show ((e : Int) - 1) = ((e - 1 : Nat) : Int) by omega]; exact h1
  have HAN : Hid (bits .and .u64 (e : Int) ((e - 1 : Nat) : Int) = ((e &&& (e - 1) : Nat) : Int)) := Lib.hid (and_n e (e - 1) (by have := HN.out; omega) (by have := HN.out; omega))
  have HPF := Lib.hid HEF.out.1
  clear HEF
  generalize e &&& (e - 1) = q at *
  generalize e - 1 = e' at *
  have BA : Below w3.heap.size w3 (w3.alloc (.cells #[.int .u64 0, .int .u64 (e : Int), .slice A2 nH c2, .slice Ar nr cr, .bool kb, .slice A6 nG c6, .slice A7 E.length c7] 31)) := (Below.refl _ _).alloc (Nat.le_refl _) _
  have HKR := Lib.hid (Blk.new w3 31 #[.int .u64 0, .int .u64 (e : Int), .slice A2 nH c2, .slice Ar nr cr, .bool kb, .slice A6 nG c6, .slice A7 E.length c7])
  have HSE := Lib.hid (HK.out.2.2.2.below BA)
  have HKH4 := Lib.hid (HKH.out.below' BA)
  have HB4 := Lib.hid (HB3.out.trans (BA.mono HB3.out.size))
  clear BA HK
  go_wp2_with fail
  generalize w3.alloc (.cells #[.int .u64 0, .int .u64 (e : Int), .slice A2 nH c2, .slice Ar nr cr, .bool kb, .slice A6 nG c6, .slice A7 E.length c7] 31) = W0 at *
  go_loopw [9, 10, 11, 31] (fun _ _ _ kv wr => ∃ k : Nat, k ≤ E.length ∧ kv = .int .i64 (k : Int) ∧ Below W0.heap.size W0 wr) (fun _ _ _ kv _ => E.length - (intOf kv).toNat)
  case atStart => exact ⟨0, Nat.zero_le _, rfl, Below.refl _ _⟩
  case round =>
    obtain ⟨k, hk, rfl, hB⟩ := hrel
    by_cases hkl : k < E.length
    · obtain ⟨gE, cE, eA, hcE, hat⟩ := HSE.out.at (by omega)
      injection eA with eA1 eA2 eA3
      subst eA1 eA3
      clear eA2
      obtain ⟨uk, c0, c1, c2', b2⟩ := hat k hkl
      have HSK := Lib.hid (HSP.out k hkl)
      clear hat
      have c0 := (hB.cell (World.block_lt_of_cell? W0 _ c0)).trans c0
      have c1 := (hB.cell (World.block_lt_of_cell? W0 _ c1)).trans c1
      have c3 := (hB.cell (World.block_lt_of_cell? W0 _ c2')).trans c2'
      have HBU := Lib.hid (b2.1.below hB)
      clear c2' b2
      generalize E[k].1 = lk at *
      generalize E[k].2.1 = ik at *
      generalize E[k].2.2 = hk9 at *
      obtain ⟨Au, nu, cu, rfl⟩ : ∃ A n c, uk = .slice A n c := by obtain ⟨A, c, e, _⟩ := HBU.out; exact ⟨A, _, c, e⟩
      have s1 : ¬ (20 : Int) < (lk : Int) := by have := HSK.out.1; omega
      have HCV := Lib.hid (fun W => cover_at (l := lk) (i := ik) HSK.out.1 (by have := HSK.out.2.1; have := HN.out; omega) W)
      obtain ⟨v1, r1, ⟨Bm, mm, cm, ev1⟩, hM⟩ := HLF.out (ik * 2 ^ lk) HSK.out.2.1
      rw [← HSK.out.2.2.2] at hM
      have HMM := Lib.hid hM
      have s2 : ¬ (e : Int) ≤ ((ik * 2 ^ lk : Nat) : Int) := by have := HSK.out.2.1; omega
      have s3 : ¬ (((ik + 1) * 2 ^ lk : Nat) : Int) ≤ (e : Int) := by have := HSK.out.2.2.1; omega
      have s4 : decide (e ≤ ik * 2 ^ lk) = false := decide_eq_false (by have := HSK.out.2.1; omega)
      have s5 : decide ((ik + 1) * 2 ^ lk ≤ e) = false := decide_eq_false (by have := HSK.out.2.2.1; omega)
      have s6 : ((ik * 2 ^ lk : Nat) : Int) < (e : Int) := by have := HSK.out.2.1; omega
      have s7 : (e : Int) < (((ik + 1) * 2 ^ lk : Nat) : Int) := by have := HSK.out.2.2.1; omega
      clear hM HSK
      generalize (ik + 1) * 2 ^ lk = zt at *
      generalize ik * 2 ^ lk = zf at *
      subst ev1
      have hk1 : (k : Int) < (E.length : Int) := by omega
      have hk0 : (0 : Int) ≤ (k : Int) := by omega
      have BN : Below wr.heap.size wr (wr.alloc (.cells #[.int .u64 (lk : Int), .int .u64 (ik : Int), .slice Au nu cu] 47)) := (Below.refl _ _).alloc (Nat.le_refl _) _
      have HKB := Lib.hid (Blk.new wr 47 #[.int .u64 (lk : Int), .int .u64 (ik : Int), .slice Au nu cu])
      have HBN := Lib.hid BN
      have HKR6 := (HKR.out.below' hB).cell 6
      clear BN
      go_wp2_with fail
      refine (HCV.out _).mono ?_; rintro r wc ⟨rfl, hbc⟩
      have BC : Below W0.heap.size W0 wc := (hB.trans (HBN.out.mono hB.size)).trans (hbc.mono (Nat.le_trans hB.size HBN.out.size))
      have KH := (HKH4.out.below' BC).drew
      have KB := (HKB.out.below' hbc).drew
      have hu2 := ((HBU.out.below HBN.out).below hbc).below ((Below.refl wc.heap.size wc).drew)
      have S0 : SD w wr.heap.size (.int .u32 (Ah : Int)) (.int .u32 (Bh : Int)) (.int .u32 (Ch : Int)) (.slice Au nu cu) hk9 wc.drew := ⟨KH.cell 0, KH.cell 1, KH.cell 2, KB.cell 2, hu2⟩
      have BD : Below W0.heap.size W0 wc.drew := BC.drew
      have BE : Below w.heap.size w wc.drew := HB4.out.trans (BD.mono HB4.out.size)
      have HBD := Lib.hid BD
      have HBE := Lib.hid BE
      have z0 := hu2.str
      clear KH KB hu2 BC hbc c0 c1 c3 HKR6 BD BE
      go_wp2_with fail
      go_region_held_law (fun w' => w'.cell? ⟨w.heap.size, 0, none⟩ = some (.int .u32 (Ah : Int)) ∧ w'.cell? ⟨w.heap.size, 1, none⟩ = some (.int .u32 (Bh : Int)) ∧ w'.cell? ⟨w.heap.size, 2, none⟩ = some (.int .u32 (Ch : Int)) ∧ w'.cell? ⟨wr.heap.size, 2, none⟩ = some (.slice Au nu cu) ∧ BytesR w' (.slice Au nu cu) hk9)
        (first | assumption | exact S0 | exact keepD hbm (by assumption) | fail)
        (first
          | (go_at_call 18; refine (HMM.out _ HBE.out).mono ?_; rintro e9 w' ⟨um, rfl, hum, hbm, _⟩; have z1 := hum.str; have z2 := (S0.2.2.2.2.below hbm).str)
          | fail)
      all_goals
        have hfin := HBD.out.trans (hbm.mono HBD.out.size)
        go_wp2_with fail
        go_roundw
        case rel => exact ⟨k + 1, by omega, by go_num, hfin⟩
        case measure => simp [intOf] <;> omega
    · have hk1 : ¬ (k : Int) < (E.length : Int) := by omega
      have y6 := (HKR.out.below' hB).cell 6
      have BF := HB4.out.trans (hB.mono HB4.out.size)
      have an := HAN.out
      by_cases hE0 : E.length = 0
      · have hq0 : q = 0 := HPF.out.1 hE0
        have t5 : decide ((E.length : Int) = 0) = true := by rw [hE0]; rfl
        have t6 : decide ((q : Int) = 0) = true := by rw [hq0]; rfl
        have t7 : ((E.length : Int) == 0) = true := by rw [hE0]; rfl
        have t8 : ((q : Int) == 0) = true := by rw [hq0]; rfl
        clear hE0 hq0 HPF
        go_wp2_with fail
        refine (works_c _).mono ?_; rintro r w6 ⟨rfl, hb6⟩
        go_wp2_with fail
        go_ret
        exact ⟨by first | rfl | (simp <;> omega), BF.trans (hb6.mono BF.size)⟩
      · have hq0 : ¬ q = 0 := fun h0 => hE0 (HPF.out.2 h0)
        have t3 : ¬ (E.length : Int) = 0 := by omega
        have t4 : ¬ (q : Int) = 0 := by omega
        have t5 : decide ((E.length : Int) = 0) = false := decide_eq_false t3
        have t6 : decide ((q : Int) = 0) = false := decide_eq_false t4
        have t7 : ((E.length : Int) == 0) = false := beq_eq_false_iff_ne.2 t3
        have t8 : ((q : Int) == 0) = false := beq_eq_false_iff_ne.2 t4
        clear hE0 hq0 HPF
        go_wp2_with fail
        refine (works_c _).mono ?_; rintro r w6 ⟨rfl, hb6⟩
        go_wp2_with fail
        go_ret
        exact ⟨by first | rfl | (simp <;> omega), BF.trans (hb6.mono BF.size)⟩
set_option maxHeartbeats 4000000 in
theorem walk (F : Stop.Interp) (w : World) (hF : F.answers w.tape) (h : Pl.HF) (ok : h.ok) (v : Value) (P : List (List Nat)) (hv : HashesR w v P) (hT : LaidIs w) :
    Calls Tryf.prog 10 #[hashV h, v] w fun e w' => e = .returned (.bool true) ∧ Below w.heap.size w w' := by
  have HB := Lib.hid (fun C => (Below.refl w.heap.size w).alloc (Nat.le_refl _) (.cells C 24))
  obtain ⟨Av, cv, ev, h9v⟩ := id hv
  clear h9v
  subst ev
  by_cases g0 : ¬ Fits P
  case pos =>
    have HFx : Hid (∀ W, Below w.heap.size w W → Calls Tryf.prog 14 #[.slice Av P.length cv] W fun e w' => e = .returned (.bool false) ∧ W = w') := Lib.hid (fun W hb => (fits1_c (.slice Av P.length cv) P W (hv.below hb)).mono fun _ _ r => r.no g0)
    obtain ⟨Ah, Bh, Ch⟩ := h
    unfold hashV
    clear hT hF hv g0 ok
    go_enter Tryf.func10, Tryf.ntmps10
    go_wp2_with fail
    refine (HFx.out _ (HB.out _)).mono ?_; rintro e w' ⟨rfl, rfl⟩
    go_wp2_with fail
    go_ret
    exact ⟨rfl, HB.out _⟩
  have gfP : Fits P := Classical.not_not.1 g0
  clear g0
  have HFP : Hid (∀ W, Below w.heap.size w W → Calls Tryf.prog 14 #[.slice Av P.length cv] W fun e w' => e = .returned (.bool true) ∧ W = w') := Lib.hid (fun W hb => (fits1_c (.slice Av P.length cv) P W (hv.below hb)).mono fun _ _ r => r.yes gfP)
  by_cases g1 : ¬ IsLeaves P
  case pos =>
    have HSx : Hid (∀ W, Below w.heap.size w W → Calls Tryf.prog 15 #[.slice Av P.length cv] W fun e w' => e = .returned (.bool false) ∧ W = w') := Lib.hid (fun W hb => (leaves_c (.slice Av P.length cv) P W (hv.below hb) gfP.1).mono fun _ _ r => r.no g1)
    obtain ⟨Ah, Bh, Ch⟩ := h
    unfold hashV
    clear hT hF hv gfP g1 ok
    go_enter Tryf.func10, Tryf.ntmps10
    go_wp2_with fail
    refine (HFP.out _ (HB.out _)).mono ?_; rintro e w' ⟨rfl, rfl⟩
    go_wp2_with fail
    refine (HSx.out _ (HB.out _)).mono ?_; rintro e w' ⟨rfl, rfl⟩
    go_wp2_with fail
    go_ret
    exact ⟨rfl, HB.out _⟩
  have geP : IsLeaves P := Classical.not_not.1 g1
  clear g1
  have HEP : P.length ≠ 0 → Hid (∀ W, Below w.heap.size w W → Calls Tryf.prog 15 #[.slice Av P.length cv] W fun e w' => e = .returned (.bool true) ∧ W = w') := fun _ => Lib.hid (fun W hb => (leaves_c (.slice Av P.length cv) P W (hv.below hb) gfP.1).mono fun _ _ r => r.yes geP)
  obtain ⟨l1, l2, l3⟩ := geP
  exact main F h ok Av cv P w hF hT hv gfP HFP (by omega) l1 HEP (by omega)
theorem reads (os : Os) {H : Type} (enc : TypeId × Value → H) : ∃ places, DataW.whole enc Tryf.prog ((laidWorld os).forCall (fun _ _ => 0) ⟨#[], #[.agg #[.int .u32 0, .int .u32 0, .int .u32 0], .slice none 0 0], []⟩).memory Tryf.f10.params.toList Rows.fnAppendEdgeSpec.vars false (#[.agg #[.int .u32 0, .int .u32 0, .int .u32 0], .slice none 0 0] : Array Value).toList 8 = some ([.agg [.lit (.int .u32 0), .lit (.int .u32 0), .lit (.int .u32 0)], .nil], [], places) :=
  ⟨[], by kernel_rfl⟩
set_option maxRecDepth 100000 in
theorem contract (F : Stop.Interp) (H : Type) (enc : TypeId × Value → H) (W : World) (base : Nat) (args : Array Value) (ds gs : List (DataW H)) (before : List MemPlace) (hF : F.told.answers W.tape)
    (hval0 : ∀ (j : Nat) t v, Tryf.f10.params[j]? = some t → args[j]? = some v → Value.okWide Tryf.prog W .any base t v)
    (hW : DataW.Whole enc Tryf.prog Tryf.f10.params.toList Rows.fnAppendEdgeSpec.vars false W args.toList ds gs before) (hL : laidMetH Tryf.prog Rows.fnAppendEdgeRow.laid W) :
    Calls Tryf.prog 10 args W fun e W' => ∃ v, e = .returned v ∧ ((OpenSpec.ofChange Rows.fnAppendEdgeSpec).at F.told).post enc Tryf.prog Tryf.f10 false true false false W args v W' := by
  have hval : ∀ (j : Nat) t v, Tryf.f10.params[j]? = some t → args[j]? = some v → Value.okWide Tryf.prog W .any base t v := hval0
  have hW' := hW
  obtain ⟨p, q, hA0, hV, rfl, hfz, hnd⟩ := hW
  have hA : DataW.TrodAll enc Tryf.prog W 0 (fun _ => true) true Tryf.f10.params.toList args.toList ds p := hA0
  rw [Tryf.params10] at hA hval
  obtain ⟨v0, vs0, d0, ds0, p0, q0, hargs, rfl, rfl, h0, r0⟩ := trodAll_cons hA
  obtain ⟨v1, vs1, d1, ds1, p1, q1, rfl, rfl, rfl, h1, r1⟩ := trodAll_cons r0
  obtain ⟨rfl, rfl, rfl⟩ := trodAll_nil r1
  obtain rfl : args = #[v0, v1] := by cases args; simp_all
  obtain ⟨rfl, rfl⟩ := trodVars_none hV
  have k0 := h0
  have lt0 : ∀ x ∈ p0, x.block < W.heap.size := by obtain ⟨m, hm⟩ := k0; exact DataW.trod_lt m _ _ _ hm
  obtain ⟨hh0, rfl, w0⟩ := openHash (hval 0 24 v0 rfl rfl) h0
  have k1 := h1
  have lt1 : ∀ x ∈ p1, x.block < W.heap.size := by obtain ⟨m, hm⟩ := k1; exact DataW.trod_lt m _ _ _ hm
  obtain ⟨L1, w1⟩ := openHashes (hval 1 25 v1 rfl rfl) h1
  refine (walk F.told W hF hh0 w0 v1 L1 w1 (laidIs_of hL)).mono fun e W' ⟨he, bel⟩ => ?_
  subst he
  exact ⟨_, rfl, _, _, _, [], _, [], hW', trodAll_mk1 (shut_bool Tryf.underlying4 _), (trodAll_cons_mk (Below.trod laidOut (by kernel_rfl) (of_decide_eq_true (by kernel_rfl)) k0 bel lt0) (trodAll_cons_mk (Below.trod laidOut (by kernel_rfl) (of_decide_eq_true (by kernel_rfl)) k1 bel lt1) trodAll_mk0)), rfl, bel.frame _, fun h => by cases h⟩
set_option maxRecDepth 100000 in
theorem lifted (os : Os) (started : os.Started) (H : Type) (enc : TypeId × Value → H) :
    ReturnsInTold none {} Tryf.checked os 10 .any Input.okWide ((OpenSpec.ofChange Rows.fnAppendEdgeSpec).preRow enc Tryf.prog Tryf.f10 Rows.fnAppendEdgeRow.domain false Rows.fnAppendEdgeRow.laid) (fun F => ((OpenSpec.ofChange Rows.fnAppendEdgeSpec).at F).post enc Tryf.prog Tryf.f10 false true false false) (aloneAtReturn Tryf.prog) nothingAlways := by
  obtain ⟨places, hx⟩ := reads os enc
  refine returnsInTold_of_row (C := Tryf.checked) (s := OpenSpec.ofChange Rows.fnAppendEdgeSpec) mayEnter own started (by kernel_rfl) Tryf.func10
    (OpenSpec.witness_stopped_at (enc := enc) (C := Tryf.checked) false (laidWorld os) #[.agg #[.int .u32 0, .int .u32 0, .int .u32 0], .slice none 0 0] rfl (by kernel_rfl) (by kernel_rfl) (by kernel_rfl)
      (OpenSpec.preRow_of_cond 8 hx (by kernel_rfl) (fun k hk => by cases hk) (by kernel_rfl) (laid_met os #[.agg #[.int .u32 0, .int .u32 0, .int .u32 0], .slice none 0 0]))) ?_
  intro F W base args ds gs before _ hF hval hW _ _ _ hL _
  exact contract F H enc W base args ds gs before hF hval hW hL
theorem proved : Rows.FnAppendEdgeToldSaid :=
  Claim7.holds_of_told_tied_any_at .later 10 Tryf.f10 "fmt.errorf" [] [] _ _ _ _ _ (by kernel_rfl) rfl rfl rfl laidOut (by kernel_rfl) rfl ⟨rfl, rfl, rfl, rfl, rfl, rfl, rfl⟩ rfl rfl (by kernel_rfl) (by kernel_rfl) Tryf.func10 (by kernel_rfl)
    (of_decide_eq_true (by kernel_rfl)) (by unfold Func.isWrapper; first | (rw [if_pos (by decide +kernel)]; kernel_rfl) | (rw [if_neg (by decide +kernel)]; exact ⟨rfl, rfl⟩)) stopsAre.symm rfl stopKnobs.symm (by kernel_rfl)
    (by kernel_rfl) (by kernel_rfl) (by kernel_rfl) (by kernel_rfl) (by kernel_rfl) (by kernel_rfl) (by kernel_rfl) (by kernel_rfl) (by kernel_rfl) rfl (by kernel_rfl) rfl rfl
    rfl rfl
    rfl mainIs (by kernel_rfl) (by kernel_rfl) (by decide) (by kernel_rfl) fnAppendEdge_row_tie
    (OpenClaim.moreEntering_of mayEnter (by kernel_rfl) (by kernel_rfl) (by kernel_rfl) (by kernel_rfl) (by kernel_rfl) (by kernel_rfl) (by kernel_rfl) liftsFinal.symm make)
    ⟨_, WideRow.started_initial, quiet _⟩
    (fun os started _ H enc _ => lifted os started H enc)
end Go.Proofs.YtpdmmmcelkinjaaFmt.fnAppendEdge
