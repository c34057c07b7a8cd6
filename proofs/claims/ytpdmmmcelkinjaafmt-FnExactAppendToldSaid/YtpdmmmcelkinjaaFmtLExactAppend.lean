/- A compact range has the hashes of the fewest perfect trees of its leaves. -/
import Derived.Test.YtpdmmmcelkinjaaFmtImplApp
import Derived.Test.YtpdmmmcelkinjaaFmtWorks
import Derived.Test.YtpdmmmcelkinjaaFmtPieceH
import Derived.Test.YtpdmmmcelkinjaaFmtOpenH
namespace Go.Proofs.YtpdmmmcelkinjaaFmt.fnExactAppend
open Go.ChangeShapes Go.WideShapes Go.ChangeAt Go.RowKit
set_option maxRecDepth 100000
abbrev SE (w : World) (g3 : Nat) (x1 x2 x3 b e hv v : Value) (H P : List (List Nat)) (w' : World) : Prop := w'.cell? ⟨w.heap.size, 0, none⟩ = some x1 ∧ w'.cell? ⟨w.heap.size, 1, none⟩ = some x2 ∧ w'.cell? ⟨w.heap.size, 2, none⟩ = some x3 ∧ w'.cell? ⟨g3, 0, none⟩ = some b ∧ w'.cell? ⟨g3, 1, none⟩ = some e ∧ w'.cell? ⟨g3, 2, none⟩ = some hv ∧ HashesR w' hv H ∧ HashesR w' v P ∧ Below w.heap.size w w'
theorem keepE {w W w' : World} {g3 : Nat} {x1 x2 x3 b e hv v : Value} {H P : List (List Nat)} (hb : Below W.heap.size W w') (h : SE w g3 x1 x2 x3 b e hv v H P W) : SE w g3 x1 x2 x3 b e hv v H P w' :=
  have up : ∀ {p : Addr} {v : Value}, W.cell? p = some v → w'.cell? p = some v := fun {p} {_} h => (hb.cell (World.block_lt_of_cell? W p h)).trans h
  ⟨up h.1, up h.2.1, up h.2.2.1, up h.2.2.2.1, up h.2.2.2.2.1, up h.2.2.2.2.2.1, h.2.2.2.2.2.2.1.below hb, h.2.2.2.2.2.2.2.1.below hb, h.2.2.2.2.2.2.2.2.trans (hb.mono h.2.2.2.2.2.2.2.2.size)⟩
set_option maxHeartbeats 8000000 in
theorem main (F : Stop.Interp) (h : Pl.HF) (ok : h.ok) (b : Nat) (Av : Option Addr) (cv : Nat) (P : List (List Nat)) (w : World) (hF : F.answers w.tape) (hT : Tab w) (hv : HashesR w (.slice Av P.length cv) P) (gfP : Fits P) (HFP : Hid (∀ W, Below w.heap.size w W → Calls Tryf.prog 14 #[.slice Av P.length cv] W fun e w' => e = .returned (.bool true) ∧ W = w')) (hb : b ≤ 1152921504606846976) (hn : P.length ≤ 200) (h2 : ∀ x ∈ P, x.length = 2) (HEP : P.length ≠ 0 → Hid (∀ W, Below w.heap.size w W → Calls Tryf.prog 15 #[.slice Av P.length cv] W fun e w' => e = .returned (.bool true) ∧ W = w')) :
    Calls Tryf.prog 9 #[hashV h, .int .u64 (b : Int), .slice Av P.length cv] w fun e w' => e = .returned (.bool true) ∧ Below w.heap.size w w' := by
  have HB := Lib.hid (fun C => (Below.refl w.heap.size w).alloc (Nat.le_refl _) (.cells C 24))
  have HAP := Lib.hid (fun W (hW : Below w.heap.size w W) => append_d F h ok b (.slice Av P.length cv) P W (ans_below hF hW) (hv.below hW) h2 (by omega) (by omega) (hT.below hW))
  have HV := Lib.hid hv
  have HT := Lib.hid hT
  have HF := Lib.hid hF
  have HOK := Lib.hid ok
  have H22 := Lib.hid h2
  have HGF := Lib.hid gfP
  have HN := Lib.hid hn
  have HBB := Lib.hid hb
  have hb1 : (b : Int) ≤ 1152921504606846976 := by omega
  have HPH := Lib.hid (fun W (hW : HashesR W (.slice Av P.length cv) P) => pieceHashes_c h ok b (.slice Av P.length cv) P W hW (by omega) (by omega))
  have w1 : IntKind.u64.wrap ((P.length : Nat) : Int) = ((P.length : Nat) : Int) := wrapN _ (by omega)
  have w2 : IntKind.u64.wrap ((b : Int) + ((P.length : Nat) : Int)) = ((b + P.length : Nat) : Int) := by have := wrapN (b + P.length) (by omega); simpa using this
  have hn1 : (P.length : Int) ≤ 200 := by omega
  clear hv hT hF ok h2 gfP hb
  by_cases h0 : P.length = 0
  · have hz : (P.length : Int) = 0 := by omega
    have hz1 : ¬ (0 : Int) < (P.length : Int) := by omega
    clear HEP h0 hn
    generalize hnn : P.length = n at *
    have HNN := Lib.hid hnn
    clear hnn
    obtain rfl : n = 0 := by omega
    clear hz hz1 hn1
    obtain ⟨Ah, Bh, Ch⟩ := h
    unfold hashV
    go_enter Tryf.func9, Tryf.ntmps9
    go_wp2_with fail
    refine (HFP.out _ (HB.out _)).mono ?_; rintro e w' ⟨rfl, rfl⟩
    go_wp2_with fail
    refine (HAP.out _ (HB.out _)).mono ?_; rintro r w3 ⟨A2, Ar, A6, A7, c2, nr, cr, c6, c7, nH, nG, nE, e, kb, H, R, G, E, rfl, HEQ, HK, hb3⟩
    have HKH : Hid (Blk w3 w.heap.size 24 #[.int .u32 (Ah : Int), .int .u32 (Bh : Int), .int .u32 (Ch : Int)]) := Lib.hid ((Blk.new w _ _).below' hb3)
    have HB3 := Lib.hid ((HB.out _).trans (hb3.mono (HB.out _).size))
    clear hb3
    have HH : Hid (H = Pl.ph ⟨Ah, Bh, Ch⟩ (Pl.lv P b) b (b + 0)) := Lib.hid HEQ.out.2.2.1
    have HL := Lib.hid HEQ.out.2.2.2.2.2.2.1
    have hHl : H.length ≤ 1000 := by
      rw [HH.out, Pl.ph_length]
      have := Pl.pieces_len b (b + 0) (by have := HBB.out; omega)
      omega
    have HPH1 := Lib.hid (fun W (hW : HashesR W (.slice Av 0 cv) P) => HPH.out W hW)
    rw [← HH.out] at HPH1
    have HSM := Lib.hid (fun W (v1 v2 : Value) (h1 : HashesR W v1 H) (h2 : HashesR W v2 H) => (sameHashes_c v1 v2 H H W h1 h2 (by omega)).mono fun _ _ r => r.yes rfl)
    obtain rfl : b = e := HEQ.out.1.symm
    clear w2 w1
    have w5 : IntKind.u64.wrap (b : Int) = (b : Int) := wrapN b (by have := HBB.out; omega)
    have w6 : IntKind.u64.wrap 0 = 0 := by decide
    unfold hashV at HPH1
    simp only [] at HPH1
    have BA : Below w3.heap.size w3 (w3.alloc (.cells #[.int .u64 (b : Int), .int .u64 (b : Int), .slice A2 nH c2, .slice Ar nr cr, .bool kb, .slice A6 nG c6, .slice A7 nE c7] 31)).drew := ((Below.refl _ _).alloc (Nat.le_refl _) _).drew
    have hKH := HKH.out.below' BA
    have hKR := (Blk.new w3 31 #[.int .u64 (b : Int), .int .u64 (b : Int), .slice A2 nH c2, .slice Ar nr cr, .bool kb, .slice A6 nG c6, .slice A7 nE c7]).drew
    have S0 : SE w w3.heap.size (.int .u32 (Ah : Int)) (.int .u32 (Bh : Int)) (.int .u32 (Ch : Int)) (.int .u64 (b : Int)) (.int .u64 (b : Int)) (.slice A2 nH c2) (.slice Av 0 cv) H P (w3.alloc (.cells #[.int .u64 (b : Int), .int .u64 (b : Int), .slice A2 nH c2, .slice Ar nr cr, .bool kb, .slice A6 nG c6, .slice A7 nE c7] 31)).drew := ⟨hKH.cell 0, hKH.cell 1, hKH.cell 2, hKR.cell 0, hKR.cell 1, hKR.cell 2, (HK.out.1.hashes).below BA, (HV.out.below HB3.out).below BA, HB3.out.trans (BA.mono HB3.out.size)⟩
    clear hKH BA hKR
    go_wp2_with fail
    go_region_held3 (fun w' => w'.cell? ⟨w.heap.size, 0, none⟩ = some (.int .u32 (Ah : Int)) ∧ w'.cell? ⟨w.heap.size, 1, none⟩ = some (.int .u32 (Bh : Int)) ∧ w'.cell? ⟨w.heap.size, 2, none⟩ = some (.int .u32 (Ch : Int)) ∧ w'.cell? ⟨w3.heap.size, 0, none⟩ = some (.int .u64 (b : Int)) ∧ w'.cell? ⟨w3.heap.size, 1, none⟩ = some (.int .u64 (b : Int)) ∧ w'.cell? ⟨w3.heap.size, 2, none⟩ = some (.slice A2 nH c2) ∧ HashesR w' (.slice A2 nH c2) H ∧ HashesR w' (.slice Av 0 cv) P ∧ Below w.heap.size w w')
      (first | assumption | exact S0 | exact keepE hbp (by assumption) | exact keepE hbs (by assumption) | exact keepE hbw (by assumption) | fail)
      (first
        | (go_at_call 17; refine (HPH1.out _ (show SE w w3.heap.size (.int .u32 (Ah : Int)) (.int .u32 (Bh : Int)) (.int .u32 (Ch : Int)) (.int .u64 (b : Int)) (.int .u64 (b : Int)) (.slice A2 nH c2) (.slice Av 0 cv) H P _ by assumption).2.2.2.2.2.2.2.1).mono ?_; rintro e9 w' ⟨pv, rfl, hpv0, hbp⟩; have hpv := hpv0.hashes; obtain ⟨Ap, cp, rfl, _⟩ := id hpv)
        | (go_at_call 22; refine (HSM.out _ _ _ (show SE w w3.heap.size (.int .u32 (Ah : Int)) (.int .u32 (Bh : Int)) (.int .u32 (Ch : Int)) (.int .u64 (b : Int)) (.int .u64 (b : Int)) (.slice A2 nH c2) (.slice Av 0 cv) H P _ by assumption).2.2.2.2.2.2.1 hpv).mono ?_; rintro e9 w' ⟨rfl, hbs⟩)
        | (go_at_call 21; refine (works_c _).mono ?_; rintro e9 w' ⟨rfl, hbw⟩)
        | fail)
    all_goals
      have hfin := (show SE w w3.heap.size (.int .u32 (Ah : Int)) (.int .u32 (Bh : Int)) (.int .u32 (Ch : Int)) (.int .u64 (b : Int)) (.int .u64 (b : Int)) (.slice A2 nH c2) (.slice Av 0 cv) H P w' by assumption).2.2.2.2.2.2.2.2
      go_wp2
      go_ret
      exact ⟨by first | rfl | (simp <;> omega), hfin⟩
  · have HE1 := HEP h0
    have hz : ¬ (P.length : Int) = 0 := by omega
    have hz1 : (0 : Int) < (P.length : Int) := by omega
    have hz2 : ((P.length : Int) == 0) = false := beq_eq_false_iff_ne.2 hz
    clear HEP h0 hn
    generalize hnn : P.length = n at *
    have HNN := Lib.hid hnn
    clear hnn
    obtain ⟨Ah, Bh, Ch⟩ := h
    unfold hashV
    go_enter Tryf.func9, Tryf.ntmps9
    go_wp2_with fail
    refine (HFP.out _ (HB.out _)).mono ?_; rintro e w' ⟨rfl, rfl⟩
    go_wp2_with fail
    refine (HE1.out _ (HB.out _)).mono ?_; rintro e w' ⟨rfl, rfl⟩
    go_wp2_with fail
    refine (HAP.out _ (HB.out _)).mono ?_; rintro r w3 ⟨A2, Ar, A6, A7, c2, nr, cr, c6, c7, nH, nG, nE, e, kb, H, R, G, E, rfl, HEQ, HK, hb3⟩
    have HKH : Hid (Blk w3 w.heap.size 24 #[.int .u32 (Ah : Int), .int .u32 (Bh : Int), .int .u32 (Ch : Int)]) := Lib.hid ((Blk.new w _ _).below' hb3)
    have HB3 := Lib.hid ((HB.out _).trans (hb3.mono (HB.out _).size))
    clear hb3
    have HH : Hid (H = Pl.ph ⟨Ah, Bh, Ch⟩ (Pl.lv P b) b (b + n)) := Lib.hid HEQ.out.2.2.1
    have HL := Lib.hid HEQ.out.2.2.2.2.2.2.1
    have hHl : H.length ≤ 1000 := by
      rw [HH.out, Pl.ph_length]
      have := Pl.pieces_len b (b + n) (by have := HBB.out; omega)
      omega
    have HPH1 := Lib.hid (fun W (hW : HashesR W (.slice Av n cv) P) => HPH.out W hW)
    rw [← HH.out] at HPH1
    have HSM := Lib.hid (fun W (v1 v2 : Value) (h1 : HashesR W v1 H) (h2 : HashesR W v2 H) => (sameHashes_c v1 v2 H H W h1 h2 (by omega)).mono fun _ _ r => r.yes rfl)
    rw [← HEQ.out.1] at w2
    unfold hashV at HPH1
    simp only [] at HPH1
    have BA : Below w3.heap.size w3 (w3.alloc (.cells #[.int .u64 (b : Int), .int .u64 (e : Int), .slice A2 nH c2, .slice Ar nr cr, .bool kb, .slice A6 nG c6, .slice A7 nE c7] 31)).drew := ((Below.refl _ _).alloc (Nat.le_refl _) _).drew
    have hKH := HKH.out.below' BA
    have hKR := (Blk.new w3 31 #[.int .u64 (b : Int), .int .u64 (e : Int), .slice A2 nH c2, .slice Ar nr cr, .bool kb, .slice A6 nG c6, .slice A7 nE c7]).drew
    have S0 : SE w w3.heap.size (.int .u32 (Ah : Int)) (.int .u32 (Bh : Int)) (.int .u32 (Ch : Int)) (.int .u64 (b : Int)) (.int .u64 (e : Int)) (.slice A2 nH c2) (.slice Av n cv) H P (w3.alloc (.cells #[.int .u64 (b : Int), .int .u64 (e : Int), .slice A2 nH c2, .slice Ar nr cr, .bool kb, .slice A6 nG c6, .slice A7 nE c7] 31)).drew := ⟨hKH.cell 0, hKH.cell 1, hKH.cell 2, hKR.cell 0, hKR.cell 1, hKR.cell 2, (HK.out.1.hashes).below BA, (HV.out.below HB3.out).below BA, HB3.out.trans (BA.mono HB3.out.size)⟩
    clear hKH BA hKR
    go_wp2_with fail
    go_region_held3 (fun w' => w'.cell? ⟨w.heap.size, 0, none⟩ = some (.int .u32 (Ah : Int)) ∧ w'.cell? ⟨w.heap.size, 1, none⟩ = some (.int .u32 (Bh : Int)) ∧ w'.cell? ⟨w.heap.size, 2, none⟩ = some (.int .u32 (Ch : Int)) ∧ w'.cell? ⟨w3.heap.size, 0, none⟩ = some (.int .u64 (b : Int)) ∧ w'.cell? ⟨w3.heap.size, 1, none⟩ = some (.int .u64 (e : Int)) ∧ w'.cell? ⟨w3.heap.size, 2, none⟩ = some (.slice A2 nH c2) ∧ HashesR w' (.slice A2 nH c2) H ∧ HashesR w' (.slice Av n cv) P ∧ Below w.heap.size w w')
      (first | assumption | exact S0 | exact keepE hbp (by assumption) | exact keepE hbs (by assumption) | exact keepE hbw (by assumption) | fail)
      (first
        | (go_at_call 17; refine (HPH1.out _ (show SE w w3.heap.size (.int .u32 (Ah : Int)) (.int .u32 (Bh : Int)) (.int .u32 (Ch : Int)) (.int .u64 (b : Int)) (.int .u64 (e : Int)) (.slice A2 nH c2) (.slice Av n cv) H P _ by assumption).2.2.2.2.2.2.2.1).mono ?_; rintro e9 w' ⟨pv, rfl, hpv0, hbp⟩; have hpv := hpv0.hashes; obtain ⟨Ap, cp, rfl, _⟩ := id hpv)
        | (go_at_call 22; refine (HSM.out _ _ _ (show SE w w3.heap.size (.int .u32 (Ah : Int)) (.int .u32 (Bh : Int)) (.int .u32 (Ch : Int)) (.int .u64 (b : Int)) (.int .u64 (e : Int)) (.slice A2 nH c2) (.slice Av n cv) H P _ by assumption).2.2.2.2.2.2.1 hpv).mono ?_; rintro e9 w' ⟨rfl, hbs⟩)
        | (go_at_call 21; refine (works_c _).mono ?_; rintro e9 w' ⟨rfl, hbw⟩)
        | fail)
    all_goals
      have hfin := (show SE w w3.heap.size (.int .u32 (Ah : Int)) (.int .u32 (Bh : Int)) (.int .u32 (Ch : Int)) (.int .u64 (b : Int)) (.int .u64 (e : Int)) (.slice A2 nH c2) (.slice Av n cv) H P w' by assumption).2.2.2.2.2.2.2.2
      go_wp2
      go_ret
      exact ⟨by first | rfl | (simp <;> omega), hfin⟩
set_option maxHeartbeats 4000000 in
theorem walk (F : Stop.Interp) (w : World) (hF : F.answers w.tape) (h : Pl.HF) (ok : h.ok) (a1 : Int) (w1 : 0 ≤ a1 ∧ a1 < 18446744073709551616) (v : Value) (P : List (List Nat)) (hv : HashesR w v P) (hT : LaidIs w) :
    Calls Tryf.prog 9 #[hashV h, .int .u64 a1, v] w fun e w' => e = .returned (.bool true) ∧ Below w.heap.size w w' := by
  obtain ⟨b, rfl⟩ := Int.eq_ofNat_of_zero_le w1.1
  have hbs : b < 18446744073709551616 := by omega
  clear w1
  have HB := Lib.hid (fun C => (Below.refl w.heap.size w).alloc (Nat.le_refl _) (.cells C 24))
  obtain ⟨Av, cv, ev, h9v⟩ := id hv
  clear h9v
  subst ev
  by_cases g0 : ¬ Fits P
  case pos =>
    have HFx : Hid (∀ W, Below w.heap.size w W → Calls Tryf.prog 14 #[.slice Av P.length cv] W fun e w' => e = .returned (.bool false) ∧ W = w') := Lib.hid (fun W hb => (fits1_c (.slice Av P.length cv) P W (hv.below hb)).mono fun _ _ r => r.no g0)
    obtain ⟨Ah, Bh, Ch⟩ := h
    unfold hashV
    clear hbs hT hF hv g0 ok
    go_enter Tryf.func9, Tryf.ntmps9
    go_wp2_with fail
    refine (HFx.out _ (HB.out _)).mono ?_; rintro e w' ⟨rfl, rfl⟩
    go_wp2_with fail
    go_ret
    exact ⟨rfl, HB.out _⟩
  have gfP : Fits P := Classical.not_not.1 g0
  clear g0
  have HFP : Hid (∀ W, Below w.heap.size w W → Calls Tryf.prog 14 #[.slice Av P.length cv] W fun e w' => e = .returned (.bool true) ∧ W = w') := Lib.hid (fun W hb => (fits1_c (.slice Av P.length cv) P W (hv.below hb)).mono fun _ _ r => r.yes gfP)
  by_cases g1 : (200 : Int) < (P.length : Int)
  case pos =>
    obtain ⟨Ah, Bh, Ch⟩ := h
    unfold hashV
    clear hbs hT hF hv gfP ok
    go_enter Tryf.func9, Tryf.ntmps9
    go_wp2_with fail
    refine (HFP.out _ (HB.out _)).mono ?_; rintro e w' ⟨rfl, rfl⟩
    go_wp2_with fail
    go_ret
    exact ⟨rfl, HB.out _⟩
  by_cases g2 : P.length ≠ 0 ∧ ¬ IsLeaves P
  case pos =>
    have HSx : Hid (∀ W, Below w.heap.size w W → Calls Tryf.prog 15 #[.slice Av P.length cv] W fun e w' => e = .returned (.bool false) ∧ W = w') := Lib.hid (fun W hb => (leaves_c (.slice Av P.length cv) P W (hv.below hb) gfP.1).mono fun _ _ r => r.no g2.2)
    have hz1 : (0 : Int) < (P.length : Int) := by have := g2.1; omega
    obtain ⟨Ah, Bh, Ch⟩ := h
    unfold hashV
    clear hbs hT hF hv gfP g2 ok
    go_enter Tryf.func9, Tryf.ntmps9
    go_wp2_with fail
    refine (HFP.out _ (HB.out _)).mono ?_; rintro e w' ⟨rfl, rfl⟩
    go_wp2_with fail
    refine (HSx.out _ (HB.out _)).mono ?_; rintro e w' ⟨rfl, rfl⟩
    go_wp2_with fail
    go_ret
    exact ⟨rfl, HB.out _⟩
  have g3 : P.length = 0 ∨ IsLeaves P := by
    by_cases h0 : P.length = 0
    · exact .inl h0
    · exact .inr (Classical.not_not.1 fun hc => g2 ⟨h0, hc⟩)
  clear g2
  have h2 : ∀ x ∈ P, x.length = 2 := by
    rcases g3 with h0 | h1
    · rw [List.eq_nil_of_length_eq_zero h0]; intro x hx; cases hx
    · exact h1.1
  have HEP : P.length ≠ 0 → Hid (∀ W, Below w.heap.size w W → Calls Tryf.prog 15 #[.slice Av P.length cv] W fun e w' => e = .returned (.bool true) ∧ W = w') := fun h0 => Lib.hid (fun W hb => (leaves_c (.slice Av P.length cv) P W (hv.below hb) gfP.1).mono fun _ _ r => r.yes (g3.resolve_left h0))
  by_cases g4 : (1152921504606846976 : Int) < (b : Int)
  case pos =>

    by_cases h0 : P.length = 0
    case pos =>
      clear hbs hT hF hv gfP ok HEP g3 h2 g1
      generalize hnn : P.length = n at *
      subst h0
      clear hnn
      obtain ⟨Ah, Bh, Ch⟩ := h
      unfold hashV
      go_enter Tryf.func9, Tryf.ntmps9
      go_wp2_with fail
      refine (HFP.out _ (HB.out _)).mono ?_; rintro e w' ⟨rfl, rfl⟩
      go_wp2_with fail
      go_ret
      exact ⟨rfl, HB.out _⟩
    have HE1 := HEP h0
    have hz1 : (0 : Int) < (P.length : Int) := by omega
    clear HEP g3 h2 h0
    obtain ⟨Ah, Bh, Ch⟩ := h
    unfold hashV
    clear hbs hT hF hv gfP ok
    go_enter Tryf.func9, Tryf.ntmps9
    go_wp2_with fail
    refine (HFP.out _ (HB.out _)).mono ?_; rintro e w' ⟨rfl, rfl⟩
    go_wp2_with fail
    refine (HE1.out _ (HB.out _)).mono ?_; rintro e w' ⟨rfl, rfl⟩
    go_wp2_with fail
    go_ret
    exact ⟨rfl, HB.out _⟩
  exact main F h ok b Av cv P w hF hT hv gfP HFP (by omega) (by omega) h2 HEP
theorem reads (os : Os) {H : Type} (enc : TypeId × Value → H) : ∃ places, DataW.whole enc Tryf.prog ((laidWorld os).forCall (fun _ _ => 0) ⟨#[], #[.agg #[.int .u32 0, .int .u32 0, .int .u32 0], .int .u64 0, .slice none 0 0], []⟩).memory Tryf.f9.params.toList Rows.fnExactAppendSpec.vars false (#[.agg #[.int .u32 0, .int .u32 0, .int .u32 0], .int .u64 0, .slice none 0 0] : Array Value).toList 8 = some ([.agg [.lit (.int .u32 0), .lit (.int .u32 0), .lit (.int .u32 0)], .lit (.int .u64 0), .nil], [], places) :=
  ⟨[], by kernel_rfl⟩
set_option maxRecDepth 100000 in
theorem contract (F : Stop.Interp) (H : Type) (enc : TypeId × Value → H) (W : World) (base : Nat) (args : Array Value) (ds gs : List (DataW H)) (before : List MemPlace) (hF : F.told.answers W.tape)
    (hval0 : ∀ (j : Nat) t v, Tryf.f9.params[j]? = some t → args[j]? = some v → Value.okWide Tryf.prog W .any base t v)
    (hW : DataW.Whole enc Tryf.prog Tryf.f9.params.toList Rows.fnExactAppendSpec.vars false W args.toList ds gs before) (hL : laidMetH Tryf.prog Rows.fnExactAppendRow.laid W) :
    Calls Tryf.prog 9 args W fun e W' => ∃ v, e = .returned v ∧ ((OpenSpec.ofChange Rows.fnExactAppendSpec).at F.told).post enc Tryf.prog Tryf.f9 false true false false W args v W' := by
  have hval : ∀ (j : Nat) t v, Tryf.f9.params[j]? = some t → args[j]? = some v → Value.okWide Tryf.prog W .any base t v := hval0
  have hW' := hW
  obtain ⟨p, q, hA0, hV, rfl, hfz, hnd⟩ := hW
  have hA : DataW.TrodAll enc Tryf.prog W 0 (fun _ => true) true Tryf.f9.params.toList args.toList ds p := hA0
  rw [Tryf.params9] at hA hval
  obtain ⟨v0, vs0, d0, ds0, p0, q0, hargs, rfl, rfl, h0, r0⟩ := trodAll_cons hA
  obtain ⟨v1, vs1, d1, ds1, p1, q1, rfl, rfl, rfl, h1, r1⟩ := trodAll_cons r0
  obtain ⟨v2, vs2, d2, ds2, p2, q2, rfl, rfl, rfl, h2, r2⟩ := trodAll_cons r1
  obtain ⟨rfl, rfl, rfl⟩ := trodAll_nil r2
  obtain rfl : args = #[v0, v1, v2] := by cases args; simp_all
  obtain ⟨rfl, rfl⟩ := trodVars_none hV
  have k0 := h0
  have lt0 : ∀ x ∈ p0, x.block < W.heap.size := by obtain ⟨m, hm⟩ := k0; exact DataW.trod_lt m _ _ _ hm
  obtain ⟨hh0, rfl, w0⟩ := openHash (hval 0 24 v0 rfl rfl) h0
  have k1 := h1
  have lt1 : ∀ x ∈ p1, x.block < W.heap.size := by obtain ⟨m, hm⟩ := k1; exact DataW.trod_lt m _ _ _ hm
  obtain ⟨a1, rfl, hd1, hp1, w1⟩ := open_int Tryf.underlying27 (hval 1 27 v1 rfl rfl) h1
  have k2 := h2
  have lt2 : ∀ x ∈ p2, x.block < W.heap.size := by obtain ⟨m, hm⟩ := k2; exact DataW.trod_lt m _ _ _ hm
  obtain ⟨L2, w2⟩ := openHashes (hval 2 25 v2 rfl rfl) h2
  refine (walk F.told W hF hh0 w0 a1 (bound_u64 w1) v2 L2 w2 (laidIs_of hL)).mono fun e W' ⟨he, bel⟩ => ?_
  subst he
  exact ⟨_, rfl, _, _, _, [], _, [], hW', trodAll_mk1 (shut_bool Tryf.underlying4 _), (trodAll_cons_mk (Below.trod laidOut (by kernel_rfl) (of_decide_eq_true (by kernel_rfl)) k0 bel lt0) (trodAll_cons_mk (Below.trod laidOut (by kernel_rfl) (of_decide_eq_true (by kernel_rfl)) k1 bel lt1) (trodAll_cons_mk (Below.trod laidOut (by kernel_rfl) (of_decide_eq_true (by kernel_rfl)) k2 bel lt2) trodAll_mk0))), rfl, bel.frame _, fun h => by cases h⟩
set_option maxRecDepth 100000 in
theorem lifted (os : Os) (started : os.Started) (H : Type) (enc : TypeId × Value → H) :
    ReturnsInTold none {} Tryf.checked os 9 .any Input.okWide ((OpenSpec.ofChange Rows.fnExactAppendSpec).preRow enc Tryf.prog Tryf.f9 Rows.fnExactAppendRow.domain false Rows.fnExactAppendRow.laid) (fun F => ((OpenSpec.ofChange Rows.fnExactAppendSpec).at F).post enc Tryf.prog Tryf.f9 false true false false) (aloneAtReturn Tryf.prog) nothingAlways := by
  obtain ⟨places, hx⟩ := reads os enc
  refine returnsInTold_of_row (C := Tryf.checked) (s := OpenSpec.ofChange Rows.fnExactAppendSpec) mayEnter own started (by kernel_rfl) Tryf.func9
    (OpenSpec.witness_stopped_at (enc := enc) (C := Tryf.checked) false (laidWorld os) #[.agg #[.int .u32 0, .int .u32 0, .int .u32 0], .int .u64 0, .slice none 0 0] rfl (by kernel_rfl) (by kernel_rfl) (by kernel_rfl)
      (OpenSpec.preRow_of_cond 8 hx (by kernel_rfl) (fun k hk => by cases hk) (by kernel_rfl) (laid_met os #[.agg #[.int .u32 0, .int .u32 0, .int .u32 0], .int .u64 0, .slice none 0 0]))) ?_
  intro F W base args ds gs before _ hF hval hW _ _ _ hL _
  exact contract F H enc W base args ds gs before hF hval hW hL
theorem proved : Rows.FnExactAppendToldSaid :=
  Claim7.holds_of_told_tied_any_at .later 9 Tryf.f9 "fmt.errorf" [] [] _ _ _ _ _ (by kernel_rfl) rfl rfl rfl laidOut (by kernel_rfl) rfl ⟨rfl, rfl, rfl, rfl, rfl, rfl, rfl⟩ rfl rfl (by kernel_rfl) (by kernel_rfl) Tryf.func9 (by kernel_rfl)
    (of_decide_eq_true (by kernel_rfl)) (by unfold Func.isWrapper; first | (rw [if_pos (by decide +kernel)]; kernel_rfl) | (rw [if_neg (by decide +kernel)]; exact ⟨rfl, rfl⟩)) stopsAre.symm rfl stopKnobs.symm (by kernel_rfl)
    (by kernel_rfl) (by kernel_rfl) (by kernel_rfl) (by kernel_rfl) (by kernel_rfl) (by kernel_rfl) (by kernel_rfl) (by kernel_rfl) (by kernel_rfl) rfl (by kernel_rfl) rfl rfl
    rfl rfl
    rfl mainIs (by kernel_rfl) (by kernel_rfl) (by decide) (by kernel_rfl) fnExactAppend_row_tie
    (OpenClaim.moreEntering_of mayEnter (by kernel_rfl) (by kernel_rfl) (by kernel_rfl) (by kernel_rfl) (by kernel_rfl) (by kernel_rfl) (by kernel_rfl) liftsFinal.symm make)
    ⟨_, WideRow.started_initial, quiet _⟩
    (fun os started _ H enc _ => lifted os started H enc)
end Go.Proofs.YtpdmmmcelkinjaaFmt.fnExactAppend
