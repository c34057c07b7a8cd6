/- Two leaves that are both proved at one place of one root show two pairs of one hash. -/
import Derived.Test.YtklofjhmgoejiaaFmtVerErr
import Derived.Test.YtklofjhmgoejiaaFmtCollides
import Derived.Test.YtklofjhmgoejiaaFmtFits
import Derived.Test.YtklofjhmgoejiaaFmtOpenH
namespace Go.Proofs.YtklofjhmgoejiaaFmt.fnInclusionSound
open Go.ChangeShapes Go.WideShapes Go.ChangeAt Go.RowKit
set_option maxRecDepth 100000
theorem keep1 {w W w' : World} (h : Below w.heap.size w W) (hb : Below W.heap.size W w') : Below w.heap.size w w' := h.trans (hb.mono h.size)
/-- What the thin function answers. -/
def verR (h : Pl.HF) (ll rl : List Nat) (i s : Nat) (P : List (List Nat)) : Nat := if P.length = (Pl.dirs i s).length then (if Pl.chain h ll ((Pl.dirs i s).zip P) = rl then 0 else 1) else 2
theorem verR_zero {h : Pl.HF} {ll rl : List Nat} {i s : Nat} {P : List (List Nat)} (_hi : i < s) (h0 : verR h ll rl i s P = 0) : P.length = (Pl.dirs i s).length ∧ Pl.chain h ll ((Pl.dirs i s).zip P) = rl := by
  unfold verR at h0
  by_cases h1 : P.length = (Pl.dirs i s).length
  · rw [if_pos h1] at h0
    by_cases h2 : Pl.chain h ll ((Pl.dirs i s).zip P) = rl
    · exact ⟨h1, h2⟩
    · rw [if_neg h2] at h0; omega
  · rw [if_neg h1] at h0; omega
theorem verI_any (F : Stop.Interp) (h : Pl.HF) (ok : h.ok) (i s : Nat) (hi : i < s) (hs : s < 18446744073709551616) (lv v rv : Value) (ll rl : List Nat) (L : List (List Nat)) (w : World) (hF : F.answers w.tape) (hl2 : ll.length = 2) (hlv : BytesR w lv ll) (hv : HashesR w v L) (hrv : BytesR w rv rl) (hf : Fits L) (hH : Handle w) :
    Calls Tryf.prog 15 #[hashV h, .int .u64 (i : Int), .int .u64 (s : Int), lv, v, rv] w fun e w' => e = .returned (.int .i64 ((verR h ll rl i s L : Nat) : Int)) ∧ Below w.heap.size w w' := by
  unfold verR
  by_cases h1 : L.length = (Pl.dirs i s).length
  · rw [if_pos h1]
    by_cases h2 : Pl.chain h ll ((Pl.dirs i s).zip L) = rl
    · rw [if_pos h2]; exact verI_yes h ok i s hi hs lv v rv ll rl L w hl2 hlv hv hrv h1 hf hH h2
    · rw [if_neg h2]; exact verI_no h ok i s hi hs lv v rv ll rl L w hl2 hlv hv hrv h1 hf hH h2
  · rw [if_neg h1]; exact verI_err F h i s (by omega) hs lv v rv ll rl L w hF hlv hv hrv hf hH (.inr (.inr h1))
set_option maxHeartbeats 2000000 in
theorem main (F : Stop.Interp) (h : Pl.HF) (ok : h.ok) (i : Nat) (s : Nat) (Alv : Option Addr) (clv : Nat) (ll : List Nat) (Av : Option Addr) (cv : Nat) (P : List (List Nat)) (Amv : Option Addr) (cmv : Nat) (ml : List Nat) (Au : Option Addr) (cu : Nat) (Q : List (List Nat)) (Arv : Option Addr) (crv : Nat) (rl : List Nat) (w : World) (hF : F.answers w.tape) (hH : Handle w) (_his : i < 18446744073709551616) (hss : s < 18446744073709551616) (hlv : BytesR w (.slice Alv ll.length clv) ll) (hv : HashesR w (.slice Av P.length cv) P) (hmv : BytesR w (.slice Amv ml.length cmv) ml) (hu : HashesR w (.slice Au Q.length cu) Q) (hrv : BytesR w (.slice Arv rl.length crv) rl) (_zll : ¬ (2147483647 : Int) < (ll.length : Int)) (gfP : Fits P) (HFP : Hid (∀ W, Below w.heap.size w W → Calls Tryf.prog 12 #[.slice Av P.length cv] W fun e w' => e = .returned (.bool true) ∧ W = w')) (_zml : ¬ (2147483647 : Int) < (ml.length : Int)) (gfQ : Fits Q) (HFQ : Hid (∀ W, Below w.heap.size w W → Calls Tryf.prog 12 #[.slice Au Q.length cu] W fun e w' => e = .returned (.bool true) ∧ W = w')) (_zrl : ¬ (2147483647 : Int) < (rl.length : Int)) (hlt : i < s) (gll : ll.length = 2) (gml : ml.length = 2) (grl : rl.length = 2) (_ghP : P.length = 0 ∨ IsLeaves P) (HSP : Hid (∀ W, Below w.heap.size w W → Calls Tryf.prog 13 #[.slice Av P.length cv] W fun e w' => e = .returned (.bool true) ∧ W = w')) (_ghQ : Q.length = 0 ∨ IsLeaves Q) (HSQ : Hid (∀ W, Below w.heap.size w W → Calls Tryf.prog 13 #[.slice Au Q.length cu] W fun e w' => e = .returned (.bool true) ∧ W = w')) :
    Calls Tryf.prog 5 #[hashV h, .int .u64 (i : Int), .int .u64 (s : Int), .slice Alv ll.length clv, .slice Av P.length cv, .slice Amv ml.length cmv, .slice Au Q.length cu, .slice Arv rl.length crv] w fun e w' => e = .returned (.bool true) ∧ Below w.heap.size w w' := by
  have HB := Lib.hid (fun C => (Below.refl w.heap.size w).alloc (Nat.le_refl _) (.cells C 24))
  have HPr := Lib.hid (fun (W : World) (hb : Below w.heap.size w W) => proves_c W (hH.below hb))
  have hd1 : decide (s ≤ i) = false := decide_eq_false (by omega)
  have hge : ¬ (s : Int) ≤ (i : Int) := by omega
  have SA := Lib.hid (fun (W : World) (hb : Below w.heap.size w W) => (hlv.below hb).str)
  have SB := Lib.hid (fun (W : World) (hb : Below w.heap.size w W) => (hmv.below hb).str)
  have HV1 : Hid (∀ W, Below w.heap.size w W → Calls Tryf.prog 15 #[hashV h, .int .u64 (i : Int), .int .u64 (s : Int), .slice Alv ll.length clv, .slice Av P.length cv, .slice Arv rl.length crv] W fun e w' => e = .returned (.int .i64 ((verR h ll rl i s P : Nat) : Int)) ∧ Below W.heap.size W w') := Lib.hid (fun W hb => verI_any F h ok i s hlt hss _ _ _ ll rl P W (ans_below hF hb) gll (hlv.below hb) (hv.below hb) (hrv.below hb) gfP (hH.below hb))
  have HV2 : Hid (∀ W, Below w.heap.size w W → Calls Tryf.prog 15 #[hashV h, .int .u64 (i : Int), .int .u64 (s : Int), .slice Amv ml.length cmv, .slice Au Q.length cu, .slice Arv rl.length crv] W fun e w' => e = .returned (.int .i64 ((verR h ml rl i s Q : Nat) : Int)) ∧ Below W.heap.size W w') := Lib.hid (fun W hb => verI_any F h ok i s hlt hss _ _ _ ml rl Q W (ans_below hF hb) gml (hmv.below hb) (hu.below hb) (hrv.below hb) gfQ (hH.below hb))
  by_cases hab : ll = ml
  · subst hab
    simp only [gll, grl] at SA SB HV1 HV2 ⊢
    clear hF hH hlv hv hmv hu hrv gfP gfQ ok _ghP _ghQ gll grl hlt _his hss _zll _zml _zrl HV1 HV2
    generalize P.length = np at *
    generalize Q.length = nq at *
    have s1 := SA.out _ (HB.out #[.int .u32 (h.A : Int), .int .u32 (h.B : Int), .int .u32 (h.C : Int)])
    have s2 := SB.out _ (HB.out #[.int .u32 (h.A : Int), .int .u32 (h.B : Int), .int .u32 (h.C : Int)])
    obtain ⟨Ah, Bh, Ch⟩ := h
    unfold hashV
    simp only [] at s1 s2 ⊢
    go_enter Tryf.func5, Tryf.ntmps5
    go_wp2_with fail
    refine (HFP.out _ (HB.out _)).mono ?_; rintro e w' ⟨rfl, rfl⟩
    go_wp2_with fail
    refine (HFQ.out _ (HB.out _)).mono ?_; rintro e w' ⟨rfl, rfl⟩
    go_wp2_with fail
    refine (HSP.out _ (HB.out _)).mono ?_; rintro e w' ⟨rfl, rfl⟩
    go_wp2_with fail
    refine (HSQ.out _ (HB.out _)).mono ?_; rintro e w' ⟨rfl, rfl⟩
    go_wp2_with fail
    refine (HPr.out _ (HB.out _)).mono ?_; rintro e w2 ⟨rfl, hb2⟩
    have B2 := keep1 (HB.out _) hb2
    clear hb2 s1 s2
    go_wp2_with fail
    go_ret
    exact ⟨by first | rfl | (simp <;> omega), B2⟩
  have hne := bs_ne hlv.bytes hmv.bytes hab
  by_cases h1 : verR h ll rl i s P = 0
  case neg =>
    have q1 : ¬ ((verR h ll rl i s P : Nat) : Int) = 0 := by omega
    generalize verR h ll rl i s P = x1 at *
    simp only [gll, gml, grl] at SA SB HV1 HV2 ⊢
    clear hF hH hlv hv hmv hu hrv gfP gfQ ok _ghP _ghQ gll grl hlt _his hss _zll _zml _zrl HV2 hab h1
    generalize P.length = np at *
    generalize Q.length = nq at *
    have s1 := SA.out _ (HB.out #[.int .u32 (h.A : Int), .int .u32 (h.B : Int), .int .u32 (h.C : Int)])
    have s2 := SB.out _ (HB.out #[.int .u32 (h.A : Int), .int .u32 (h.B : Int), .int .u32 (h.C : Int)])
    obtain ⟨Ah, Bh, Ch⟩ := h
    unfold hashV at HV1 ⊢
    simp only [] at s1 s2 HV1 ⊢
    go_enter Tryf.func5, Tryf.ntmps5
    go_wp2_with fail
    refine (HFP.out _ (HB.out _)).mono ?_; rintro e w' ⟨rfl, rfl⟩
    go_wp2_with fail
    refine (HFQ.out _ (HB.out _)).mono ?_; rintro e w' ⟨rfl, rfl⟩
    go_wp2_with fail
    refine (HSP.out _ (HB.out _)).mono ?_; rintro e w' ⟨rfl, rfl⟩
    go_wp2_with fail
    refine (HSQ.out _ (HB.out _)).mono ?_; rintro e w' ⟨rfl, rfl⟩
    go_wp2_with fail
    refine (HV1.out _ (HB.out _)).mono ?_; rintro e w1 ⟨rfl, hb1⟩
    have B1 := keep1 (HB.out _) hb1
    clear s1 s2 hb1
    go_wp2_with fail
    refine (HPr.out _ B1).mono ?_; rintro e w2 ⟨rfl, hb2⟩
    have B2 := keep1 B1 hb2
    clear hb2
    go_wp2_with fail
    go_ret
    exact ⟨by first | rfl | (simp <;> omega), B2⟩
  by_cases h2 : verR h ml rl i s Q = 0
  case neg =>
    have q1 : ¬ ((verR h ml rl i s Q : Nat) : Int) = 0 := by omega
    rw [h1] at HV1
    generalize verR h ml rl i s Q = x1 at *
    simp only [gll, gml, grl] at SA SB HV1 HV2 ⊢
    clear hF hH hlv hv hmv hu hrv gfP gfQ ok _ghP _ghQ gll grl hlt _his hss _zll _zml _zrl hab h1 h2
    generalize P.length = np at *
    generalize Q.length = nq at *
    have s1 := SA.out _ (HB.out #[.int .u32 (h.A : Int), .int .u32 (h.B : Int), .int .u32 (h.C : Int)])
    have s2 := SB.out _ (HB.out #[.int .u32 (h.A : Int), .int .u32 (h.B : Int), .int .u32 (h.C : Int)])
    obtain ⟨Ah, Bh, Ch⟩ := h
    unfold hashV at HV1 HV2 ⊢
    simp only [] at s1 s2 HV1 HV2 ⊢
    go_enter Tryf.func5, Tryf.ntmps5
    go_wp2_with fail
    refine (HFP.out _ (HB.out _)).mono ?_; rintro e w' ⟨rfl, rfl⟩
    go_wp2_with fail
    refine (HFQ.out _ (HB.out _)).mono ?_; rintro e w' ⟨rfl, rfl⟩
    go_wp2_with fail
    refine (HSP.out _ (HB.out _)).mono ?_; rintro e w' ⟨rfl, rfl⟩
    go_wp2_with fail
    refine (HSQ.out _ (HB.out _)).mono ?_; rintro e w' ⟨rfl, rfl⟩
    go_wp2_with fail
    refine (HV1.out _ (HB.out _)).mono ?_; rintro e w1 ⟨rfl, hb1⟩
    have B1 := keep1 (HB.out _) hb1
    have K1 : Blk w1 w.heap.size 24 #[.int .u32 (Ah : Int), .int .u32 (Bh : Int), .int .u32 (Ch : Int)] := (Blk.new w _ _).below' hb1
    obtain ⟨c1, c2, c3, _⟩ := K1.three
    clear s1 s2 hb1
    go_wp2_with fail
    refine (HV2.out _ B1).mono ?_; rintro e w3 ⟨rfl, hb3⟩
    have B3 := keep1 B1 hb3
    clear hb3 c1 c2 c3 K1
    go_wp2_with fail
    refine (HPr.out _ B3).mono ?_; rintro e w2 ⟨rfl, hb2⟩
    have B2 := keep1 B3 hb2
    clear hb2
    go_wp2_with fail
    go_ret
    exact ⟨by first | rfl | (simp <;> omega), B2⟩
  rw [h1] at HV1
  rw [h2] at HV2
  obtain ⟨l1, e1⟩ := verR_zero hlt h1
  obtain ⟨l2, e2⟩ := verR_zero hlt h2
  have HCo := Lib.hid (fun (W : World) (hb : Below w.heap.size w W) => collides_c h ok (Pl.dirs i s).length i s _ _ _ _ ll ml P Q W l1 l2 (by have := gfP.1; omega) hlt hss rfl hab (e1.trans e2.symm) (hlv.below hb) (hmv.below hb) (hv.below hb) (hu.below hb))
  simp only [gll, gml, grl] at SA SB HV1 HV2 HCo ⊢
  clear hF hH hlv hv hmv hu hrv gfP gfQ ok _ghP _ghQ gll grl hlt _his hss _zll _zml _zrl hab h1 h2 l1 l2 e1 e2
  generalize P.length = np at *
  generalize Q.length = nq at *
  have s1 := SA.out _ (HB.out #[.int .u32 (h.A : Int), .int .u32 (h.B : Int), .int .u32 (h.C : Int)])
  have s2 := SB.out _ (HB.out #[.int .u32 (h.A : Int), .int .u32 (h.B : Int), .int .u32 (h.C : Int)])
  obtain ⟨Ah, Bh, Ch⟩ := h
  unfold hashV at HV1 HV2 HCo ⊢
  simp only [] at s1 s2 HV1 HV2 HCo ⊢
  go_enter Tryf.func5, Tryf.ntmps5
  go_wp2_with fail
  refine (HFP.out _ (HB.out _)).mono ?_; rintro e w' ⟨rfl, rfl⟩
  go_wp2_with fail
  refine (HFQ.out _ (HB.out _)).mono ?_; rintro e w' ⟨rfl, rfl⟩
  go_wp2_with fail
  refine (HSP.out _ (HB.out _)).mono ?_; rintro e w' ⟨rfl, rfl⟩
  go_wp2_with fail
  refine (HSQ.out _ (HB.out _)).mono ?_; rintro e w' ⟨rfl, rfl⟩
  go_wp2_with fail
  refine (HV1.out _ (HB.out _)).mono ?_; rintro e w1 ⟨rfl, hb1⟩
  have B1 := keep1 (HB.out _) hb1
  have K1 : Blk w1 w.heap.size 24 #[.int .u32 (Ah : Int), .int .u32 (Bh : Int), .int .u32 (Ch : Int)] := (Blk.new w _ _).below' hb1
  obtain ⟨c1, c2, c3, _⟩ := K1.three
  clear s1 s2 hb1
  go_wp2_with fail
  refine (HV2.out _ B1).mono ?_; rintro e w3 ⟨rfl, hb3⟩
  have B3 := keep1 B1 hb3
  have K3 := K1.below' hb3
  clear hb3 c1 c2 c3 K1
  obtain ⟨c1, c2, c3, _⟩ := K3.three
  go_wp2_with fail
  refine (HCo.out _ B3).mono ?_; rintro e w4 ⟨rfl, hb4⟩
  have B4 := keep1 B3 hb4
  clear hb4 c1 c2 c3
  go_wp2_with fail
  refine (HPr.out _ B4).mono ?_; rintro e w2 ⟨rfl, hb2⟩
  have B2 := keep1 B4 hb2
  clear hb2
  go_wp2_with fail
  go_ret
  exact ⟨by first | rfl | (simp <;> omega), B2⟩
set_option maxHeartbeats 2000000 in
theorem walk (F : Stop.Interp) (w : World) (hF : F.answers w.tape) (h : Pl.HF) (ok : h.ok) (a1 : Int) (w1 : 0 ≤ a1 ∧ a1 < 18446744073709551616) (a2 : Int) (w2 : 0 ≤ a2 ∧ a2 < 18446744073709551616) (lv : Value) (ll : List Nat) (hlv : BytesR w lv ll) (v : Value) (P : List (List Nat)) (hv : HashesR w v P) (mv : Value) (ml : List Nat) (hmv : BytesR w mv ml) (u : Value) (Q : List (List Nat)) (hu : HashesR w u Q) (rv : Value) (rl : List Nat) (hrv : BytesR w rv rl) (hT : LaidIsH w) :
    Calls Tryf.prog 5 #[hashV h, .int .u64 a1, .int .u64 a2, lv, v, mv, u, rv] w fun e w' => e = .returned (.bool true) ∧ Below w.heap.size w w' := by
  obtain ⟨i, rfl⟩ := Int.eq_ofNat_of_zero_le w1.1
  have his : i < 18446744073709551616 := by omega
  obtain ⟨s, rfl⟩ := Int.eq_ofNat_of_zero_le w2.1
  have hss : s < 18446744073709551616 := by omega
  have HB := Lib.hid (fun C => (Below.refl w.heap.size w).alloc (Nat.le_refl _) (.cells C 24))
  have HPr := Lib.hid (fun (W : World) (hb : Below w.heap.size w W) => proves_c W (hT.handle.below hb))
  obtain ⟨Alv, clv, elv, h9lv⟩ := id hlv
  clear h9lv
  obtain ⟨Av, cv, ev, h9v⟩ := id hv
  clear h9v
  obtain ⟨Amv, cmv, emv, h9mv⟩ := id hmv
  clear h9mv
  obtain ⟨Au, cu, eu, h9u⟩ := id hu
  clear h9u
  obtain ⟨Arv, crv, erv, h9rv⟩ := id hrv
  clear h9rv
  subst elv
  subst ev
  subst emv
  subst eu
  subst erv
  by_cases g0 : (2147483647 : Int) < (ll.length : Int)
  case pos =>
    obtain ⟨Ah, Bh, Ch⟩ := h
    unfold hashV
    clear hT hF his w1 hss w2 hlv hv hmv hu hrv ok
    go_enter Tryf.func5, Tryf.ntmps5
    go_wp2_with fail
    go_ret
    exact ⟨rfl, HB.out _⟩
  by_cases g1 : ¬ Fits P
  case pos =>
    have HFx : Hid (∀ W, Below w.heap.size w W → Calls Tryf.prog 12 #[.slice Av P.length cv] W fun e w' => e = .returned (.bool false) ∧ W = w') := Lib.hid (fun W hb => (fits1_c (.slice Av P.length cv) P W (hv.below hb)).mono fun _ _ r => r.no g1)
    obtain ⟨Ah, Bh, Ch⟩ := h
    unfold hashV
    clear hT hF his w1 hss w2 hlv hv hmv hu hrv g1 ok
    go_enter Tryf.func5, Tryf.ntmps5
    go_wp2_with fail
    refine (HFx.out _ (HB.out _)).mono ?_; rintro e w' ⟨rfl, rfl⟩
    go_wp2_with fail
    go_ret
    exact ⟨rfl, HB.out _⟩
  have gfP : Fits P := Classical.not_not.1 g1
  clear g1
  have HFP : Hid (∀ W, Below w.heap.size w W → Calls Tryf.prog 12 #[.slice Av P.length cv] W fun e w' => e = .returned (.bool true) ∧ W = w') := Lib.hid (fun W hb => (fits1_c (.slice Av P.length cv) P W (hv.below hb)).mono fun _ _ r => r.yes gfP)
  by_cases g2 : (2147483647 : Int) < (ml.length : Int)
  case pos =>
    obtain ⟨Ah, Bh, Ch⟩ := h
    unfold hashV
    clear hT hF his w1 hss w2 hlv hv hmv hu hrv gfP ok
    go_enter Tryf.func5, Tryf.ntmps5
    go_wp2_with fail
    refine (HFP.out _ (HB.out _)).mono ?_; rintro e w' ⟨rfl, rfl⟩
    go_wp2_with fail
    go_ret
    exact ⟨rfl, HB.out _⟩
  by_cases g3 : ¬ Fits Q
  case pos =>
    have HFx : Hid (∀ W, Below w.heap.size w W → Calls Tryf.prog 12 #[.slice Au Q.length cu] W fun e w' => e = .returned (.bool false) ∧ W = w') := Lib.hid (fun W hb => (fits1_c (.slice Au Q.length cu) Q W (hu.below hb)).mono fun _ _ r => r.no g3)
    obtain ⟨Ah, Bh, Ch⟩ := h
    unfold hashV
    clear hT hF his w1 hss w2 hlv hv hmv hu hrv gfP g3 ok
    go_enter Tryf.func5, Tryf.ntmps5
    go_wp2_with fail
    refine (HFP.out _ (HB.out _)).mono ?_; rintro e w' ⟨rfl, rfl⟩
    go_wp2_with fail
    refine (HFx.out _ (HB.out _)).mono ?_; rintro e w' ⟨rfl, rfl⟩
    go_wp2_with fail
    go_ret
    exact ⟨rfl, HB.out _⟩
  have gfQ : Fits Q := Classical.not_not.1 g3
  clear g3
  have HFQ : Hid (∀ W, Below w.heap.size w W → Calls Tryf.prog 12 #[.slice Au Q.length cu] W fun e w' => e = .returned (.bool true) ∧ W = w') := Lib.hid (fun W hb => (fits1_c (.slice Au Q.length cu) Q W (hu.below hb)).mono fun _ _ r => r.yes gfQ)
  by_cases g4 : (2147483647 : Int) < (rl.length : Int)
  case pos =>
    obtain ⟨Ah, Bh, Ch⟩ := h
    unfold hashV
    clear hT hF his w1 hss w2 hlv hv hmv hu hrv gfP gfQ ok
    go_enter Tryf.func5, Tryf.ntmps5
    go_wp2_with fail
    refine (HFP.out _ (HB.out _)).mono ?_; rintro e w' ⟨rfl, rfl⟩
    go_wp2_with fail
    refine (HFQ.out _ (HB.out _)).mono ?_; rintro e w' ⟨rfl, rfl⟩
    go_wp2_with fail
    go_ret
    exact ⟨rfl, HB.out _⟩
  by_cases g5 : (s : Int) ≤ (i : Int)
  case pos =>
    obtain ⟨Ah, Bh, Ch⟩ := h
    unfold hashV
    clear hT hF his w1 hss w2 hlv hv hmv hu hrv gfP gfQ ok
    go_enter Tryf.func5, Tryf.ntmps5
    go_wp2_with fail
    refine (HFP.out _ (HB.out _)).mono ?_; rintro e w' ⟨rfl, rfl⟩
    go_wp2_with fail
    refine (HFQ.out _ (HB.out _)).mono ?_; rintro e w' ⟨rfl, rfl⟩
    go_wp2_with fail
    refine (HPr.out _ (HB.out _)).mono ?_; rintro e w9 ⟨rfl, hb9⟩
    have B9 := keep1 (HB.out _) hb9
    clear hb9
    go_wp2_with fail
    go_ret
    exact ⟨rfl, B9⟩
  by_cases g6 : ¬ (ll.length : Int) = 2
  case pos =>
    obtain ⟨Ah, Bh, Ch⟩ := h
    unfold hashV
    clear hT hF his w1 hss w2 hlv hv hmv hu hrv gfP gfQ ok
    go_enter Tryf.func5, Tryf.ntmps5
    go_wp2_with fail
    refine (HFP.out _ (HB.out _)).mono ?_; rintro e w' ⟨rfl, rfl⟩
    go_wp2_with fail
    refine (HFQ.out _ (HB.out _)).mono ?_; rintro e w' ⟨rfl, rfl⟩
    go_wp2_with fail
    refine (HPr.out _ (HB.out _)).mono ?_; rintro e w9 ⟨rfl, hb9⟩
    have B9 := keep1 (HB.out _) hb9
    clear hb9
    go_wp2_with fail
    go_ret
    exact ⟨rfl, B9⟩
  have g6' : ll.length = 2 := by have := Classical.not_not.1 g6; omega
  clear g6
  have g6 : (ll.length : Int) = 2 := by omega
  by_cases g7 : ¬ (ml.length : Int) = 2
  case pos =>
    obtain ⟨Ah, Bh, Ch⟩ := h
    unfold hashV
    clear hT hF his w1 hss w2 hlv hv hmv hu hrv gfP gfQ ok
    go_enter Tryf.func5, Tryf.ntmps5
    go_wp2_with fail
    refine (HFP.out _ (HB.out _)).mono ?_; rintro e w' ⟨rfl, rfl⟩
    go_wp2_with fail
    refine (HFQ.out _ (HB.out _)).mono ?_; rintro e w' ⟨rfl, rfl⟩
    go_wp2_with fail
    refine (HPr.out _ (HB.out _)).mono ?_; rintro e w9 ⟨rfl, hb9⟩
    have B9 := keep1 (HB.out _) hb9
    clear hb9
    go_wp2_with fail
    go_ret
    exact ⟨rfl, B9⟩
  have g7' : ml.length = 2 := by have := Classical.not_not.1 g7; omega
  clear g7
  have g7 : (ml.length : Int) = 2 := by omega
  by_cases g8 : ¬ (rl.length : Int) = 2
  case pos =>
    obtain ⟨Ah, Bh, Ch⟩ := h
    unfold hashV
    clear hT hF his w1 hss w2 hlv hv hmv hu hrv gfP gfQ ok
    go_enter Tryf.func5, Tryf.ntmps5
    go_wp2_with fail
    refine (HFP.out _ (HB.out _)).mono ?_; rintro e w' ⟨rfl, rfl⟩
    go_wp2_with fail
    refine (HFQ.out _ (HB.out _)).mono ?_; rintro e w' ⟨rfl, rfl⟩
    go_wp2_with fail
    refine (HPr.out _ (HB.out _)).mono ?_; rintro e w9 ⟨rfl, hb9⟩
    have B9 := keep1 (HB.out _) hb9
    clear hb9
    go_wp2_with fail
    go_ret
    exact ⟨rfl, B9⟩
  have g8' : rl.length = 2 := by have := Classical.not_not.1 g8; omega
  clear g8
  have g8 : (rl.length : Int) = 2 := by omega
  by_cases g9 : ¬ (P.length = 0 ∨ IsLeaves P)
  case pos =>
    have HSx : Hid (∀ W, Below w.heap.size w W → Calls Tryf.prog 13 #[.slice Av P.length cv] W fun e w' => e = .returned (.bool false) ∧ W = w') := Lib.hid (fun W hb => (hashes_s (.slice Av P.length cv) P W (hv.below hb) gfP.1).mono fun _ _ r => r.no g9)
    obtain ⟨Ah, Bh, Ch⟩ := h
    unfold hashV
    clear hT hF his w1 hss w2 hlv hv hmv hu hrv gfP gfQ g9 ok
    go_enter Tryf.func5, Tryf.ntmps5
    go_wp2_with fail
    refine (HFP.out _ (HB.out _)).mono ?_; rintro e w' ⟨rfl, rfl⟩
    go_wp2_with fail
    refine (HFQ.out _ (HB.out _)).mono ?_; rintro e w' ⟨rfl, rfl⟩
    go_wp2_with fail
    refine (HSx.out _ (HB.out _)).mono ?_; rintro e w' ⟨rfl, rfl⟩
    go_wp2_with fail
    refine (HPr.out _ (HB.out _)).mono ?_; rintro e w9 ⟨rfl, hb9⟩
    have B9 := keep1 (HB.out _) hb9
    clear hb9
    go_wp2_with fail
    go_ret
    exact ⟨rfl, B9⟩
  have ghP : P.length = 0 ∨ IsLeaves P := Classical.not_not.1 g9
  clear g9
  have HSP : Hid (∀ W, Below w.heap.size w W → Calls Tryf.prog 13 #[.slice Av P.length cv] W fun e w' => e = .returned (.bool true) ∧ W = w') := Lib.hid (fun W hb => (hashes_s (.slice Av P.length cv) P W (hv.below hb) gfP.1).mono fun _ _ r => r.yes ghP)
  by_cases g10 : ¬ (Q.length = 0 ∨ IsLeaves Q)
  case pos =>
    have HSx : Hid (∀ W, Below w.heap.size w W → Calls Tryf.prog 13 #[.slice Au Q.length cu] W fun e w' => e = .returned (.bool false) ∧ W = w') := Lib.hid (fun W hb => (hashes_s (.slice Au Q.length cu) Q W (hu.below hb) gfQ.1).mono fun _ _ r => r.no g10)
    obtain ⟨Ah, Bh, Ch⟩ := h
    unfold hashV
    clear hT hF his w1 hss w2 hlv hv hmv hu hrv ghP gfP gfQ g10 ok
    go_enter Tryf.func5, Tryf.ntmps5
    go_wp2_with fail
    refine (HFP.out _ (HB.out _)).mono ?_; rintro e w' ⟨rfl, rfl⟩
    go_wp2_with fail
    refine (HFQ.out _ (HB.out _)).mono ?_; rintro e w' ⟨rfl, rfl⟩
    go_wp2_with fail
    refine (HSP.out _ (HB.out _)).mono ?_; rintro e w' ⟨rfl, rfl⟩
    go_wp2_with fail
    refine (HSx.out _ (HB.out _)).mono ?_; rintro e w' ⟨rfl, rfl⟩
    go_wp2_with fail
    refine (HPr.out _ (HB.out _)).mono ?_; rintro e w9 ⟨rfl, hb9⟩
    have B9 := keep1 (HB.out _) hb9
    clear hb9
    go_wp2_with fail
    go_ret
    exact ⟨rfl, B9⟩
  have ghQ : Q.length = 0 ∨ IsLeaves Q := Classical.not_not.1 g10
  clear g10
  have HSQ : Hid (∀ W, Below w.heap.size w W → Calls Tryf.prog 13 #[.slice Au Q.length cu] W fun e w' => e = .returned (.bool true) ∧ W = w') := Lib.hid (fun W hb => (hashes_s (.slice Au Q.length cu) Q W (hu.below hb) gfQ.1).mono fun _ _ r => r.yes ghQ)
  exact main F h ok i s Alv clv ll Av cv P Amv cmv ml Au cu Q Arv crv rl w hF hT.handle his hss hlv hv hmv hu hrv g0 gfP HFP g2 gfQ HFQ g4 (by omega) g6' g7' g8' ghP HSP ghQ HSQ
theorem reads (os : Os) {H : Type} (enc : TypeId × Value → H) : ∃ places, DataW.whole enc Tryf.prog ((laidWorldH os).forCall (fun _ _ => 0) ⟨#[], #[.agg #[.int .u32 0, .int .u32 0, .int .u32 0], .int .u64 0, .int .u64 0, .slice none 0 0, .slice none 0 0, .slice none 0 0, .slice none 0 0, .slice none 0 0], []⟩).memory Tryf.f5.params.toList Rows.fnInclusionSoundSpec.vars false (#[.agg #[.int .u32 0, .int .u32 0, .int .u32 0], .int .u64 0, .int .u64 0, .slice none 0 0, .slice none 0 0, .slice none 0 0, .slice none 0 0, .slice none 0 0] : Array Value).toList 8 = some ([.agg [.lit (.int .u32 0), .lit (.int .u32 0), .lit (.int .u32 0)], .lit (.int .u64 0), .lit (.int .u64 0), .nil, .nil, .nil, .nil, .nil], [], places) :=
  ⟨[], by kernel_rfl⟩
set_option maxRecDepth 100000 in
theorem contract (F : Stop.Interp) (H : Type) (enc : TypeId × Value → H) (W : World) (base : Nat) (args : Array Value) (ds gs : List (DataW H)) (before : List MemPlace) (hF : F.told.answers W.tape)
    (hval0 : ∀ (j : Nat) t v, Tryf.f5.params[j]? = some t → args[j]? = some v → Value.okWide Tryf.prog W .any base t v)
    (hW : DataW.Whole enc Tryf.prog Tryf.f5.params.toList Rows.fnInclusionSoundSpec.vars false W args.toList ds gs before) (hL : laidMetH Tryf.prog Rows.fnInclusionSoundRow.laid W) :
    Calls Tryf.prog 5 args W fun e W' => ∃ v, e = .returned v ∧ ((OpenSpec.ofChange Rows.fnInclusionSoundSpec).at F.told).post enc Tryf.prog Tryf.f5 false true false false W args v W' := by
  have hval : ∀ (j : Nat) t v, Tryf.f5.params[j]? = some t → args[j]? = some v → Value.okWide Tryf.prog W .any base t v := hval0
  have hW' := hW
  obtain ⟨p, q, hA0, hV, rfl, hfz, hnd⟩ := hW
  have hA : DataW.TrodAll enc Tryf.prog W 0 (fun _ => true) true Tryf.f5.params.toList args.toList ds p := hA0
  rw [Tryf.params5] at hA hval
  obtain ⟨v0, vs0, d0, ds0, p0, q0, hargs, rfl, rfl, h0, r0⟩ := trodAll_cons hA
  obtain ⟨v1, vs1, d1, ds1, p1, q1, rfl, rfl, rfl, h1, r1⟩ := trodAll_cons r0
  obtain ⟨v2, vs2, d2, ds2, p2, q2, rfl, rfl, rfl, h2, r2⟩ := trodAll_cons r1
  obtain ⟨v3, vs3, d3, ds3, p3, q3, rfl, rfl, rfl, h3, r3⟩ := trodAll_cons r2
  obtain ⟨v4, vs4, d4, ds4, p4, q4, rfl, rfl, rfl, h4, r4⟩ := trodAll_cons r3
  obtain ⟨v5, vs5, d5, ds5, p5, q5, rfl, rfl, rfl, h5, r5⟩ := trodAll_cons r4
  obtain ⟨v6, vs6, d6, ds6, p6, q6, rfl, rfl, rfl, h6, r6⟩ := trodAll_cons r5
  obtain ⟨v7, vs7, d7, ds7, p7, q7, rfl, rfl, rfl, h7, r7⟩ := trodAll_cons r6
  obtain ⟨rfl, rfl, rfl⟩ := trodAll_nil r7
  obtain rfl : args = #[v0, v1, v2, v3, v4, v5, v6, v7] := by cases args; simp_all
  obtain ⟨rfl, rfl⟩ := trodVars_none hV
  have k0 := h0
  have lt0 : ∀ x ∈ p0, x.block < W.heap.size := by obtain ⟨m, hm⟩ := k0; exact DataW.trod_lt m _ _ _ hm
  obtain ⟨hh0, rfl, w0⟩ := openHash (hval 0 24 v0 rfl rfl) h0
  have k1 := h1
  have lt1 : ∀ x ∈ p1, x.block < W.heap.size := by obtain ⟨m, hm⟩ := k1; exact DataW.trod_lt m _ _ _ hm
  obtain ⟨a1, rfl, hd1, hp1, w1⟩ := open_int Tryf.underlying25 (hval 1 25 v1 rfl rfl) h1
  have k2 := h2
  have lt2 : ∀ x ∈ p2, x.block < W.heap.size := by obtain ⟨m, hm⟩ := k2; exact DataW.trod_lt m _ _ _ hm
  obtain ⟨a2, rfl, hd2, hp2, w2⟩ := open_int Tryf.underlying25 (hval 2 25 v2 rfl rfl) h2
  have k3 := h3
  have lt3 : ∀ x ∈ p3, x.block < W.heap.size := by obtain ⟨m, hm⟩ := k3; exact DataW.trod_lt m _ _ _ hm
  obtain ⟨L3, w3⟩ := openBytes (hval 3 26 v3 rfl rfl) h3
  have k4 := h4
  have lt4 : ∀ x ∈ p4, x.block < W.heap.size := by obtain ⟨m, hm⟩ := k4; exact DataW.trod_lt m _ _ _ hm
  obtain ⟨L4, w4⟩ := openHashes (hval 4 27 v4 rfl rfl) h4
  have k5 := h5
  have lt5 : ∀ x ∈ p5, x.block < W.heap.size := by obtain ⟨m, hm⟩ := k5; exact DataW.trod_lt m _ _ _ hm
  obtain ⟨L5, w5⟩ := openBytes (hval 5 26 v5 rfl rfl) h5
  have k6 := h6
  have lt6 : ∀ x ∈ p6, x.block < W.heap.size := by obtain ⟨m, hm⟩ := k6; exact DataW.trod_lt m _ _ _ hm
  obtain ⟨L6, w6⟩ := openHashes (hval 6 27 v6 rfl rfl) h6
  have k7 := h7
  have lt7 : ∀ x ∈ p7, x.block < W.heap.size := by obtain ⟨m, hm⟩ := k7; exact DataW.trod_lt m _ _ _ hm
  obtain ⟨L7, w7⟩ := openBytes (hval 7 26 v7 rfl rfl) h7
  refine (walk F.told W hF hh0 w0 a1 (bound_u64 w1) a2 (bound_u64 w2) v3 L3 w3 v4 L4 w4 v5 L5 w5 v6 L6 w6 v7 L7 w7 (laidIsH_of hL)).mono fun e W' ⟨he, bel⟩ => ?_
  subst he
  exact ⟨_, rfl, _, _, _, [], _, [], hW', trodAll_mk1 (shut_bool Tryf.underlying4 _), (trodAll_cons_mk (Below.trod laidOut (by kernel_rfl) (of_decide_eq_true (by kernel_rfl)) k0 bel lt0) (trodAll_cons_mk (Below.trod laidOut (by kernel_rfl) (of_decide_eq_true (by kernel_rfl)) k1 bel lt1) (trodAll_cons_mk (Below.trod laidOut (by kernel_rfl) (of_decide_eq_true (by kernel_rfl)) k2 bel lt2) (trodAll_cons_mk (Below.trod laidOut (by kernel_rfl) (of_decide_eq_true (by kernel_rfl)) k3 bel lt3) (trodAll_cons_mk (Below.trod laidOut (by kernel_rfl) (of_decide_eq_true (by kernel_rfl)) k4 bel lt4) (trodAll_cons_mk (Below.trod laidOut (by kernel_rfl) (of_decide_eq_true (by kernel_rfl)) k5 bel lt5) (trodAll_cons_mk (Below.trod laidOut (by kernel_rfl) (of_decide_eq_true (by kernel_rfl)) k6 bel lt6) (trodAll_cons_mk (Below.trod laidOut (by kernel_rfl) (of_decide_eq_true (by kernel_rfl)) k7 bel lt7) trodAll_mk0)))))))), rfl, bel.frame _, fun h => by cases h⟩
set_option maxRecDepth 100000 in
theorem lifted (os : Os) (started : os.Started) (H : Type) (enc : TypeId × Value → H) :
    ReturnsInTold none {} Tryf.checked os 5 .any Input.okWide ((OpenSpec.ofChange Rows.fnInclusionSoundSpec).preRow enc Tryf.prog Tryf.f5 Rows.fnInclusionSoundRow.domain false Rows.fnInclusionSoundRow.laid) (fun F => ((OpenSpec.ofChange Rows.fnInclusionSoundSpec).at F).post enc Tryf.prog Tryf.f5 false true false false) (aloneAtReturn Tryf.prog) nothingAlways := by
  obtain ⟨places, hx⟩ := reads os enc
  refine returnsInTold_of_row (C := Tryf.checked) (s := OpenSpec.ofChange Rows.fnInclusionSoundSpec) mayEnter own started (by kernel_rfl) Tryf.func5
    (OpenSpec.witness_stopped_at (enc := enc) (C := Tryf.checked) false (laidWorldH os) #[.agg #[.int .u32 0, .int .u32 0, .int .u32 0], .int .u64 0, .int .u64 0, .slice none 0 0, .slice none 0 0, .slice none 0 0, .slice none 0 0, .slice none 0 0] rfl (by kernel_rfl) (by kernel_rfl) (by kernel_rfl)
      (OpenSpec.preRow_of_cond 8 hx (by kernel_rfl) (fun k hk => by cases hk) (by kernel_rfl) (laid_metH os #[.agg #[.int .u32 0, .int .u32 0, .int .u32 0], .int .u64 0, .int .u64 0, .slice none 0 0, .slice none 0 0, .slice none 0 0, .slice none 0 0, .slice none 0 0]))) ?_
  intro F W base args ds gs before _ hF hval hW _ _ _ hL _
  exact contract F H enc W base args ds gs before hF hval hW hL
theorem proved : Rows.FnInclusionSoundToldSaid :=
  Claim7.holds_of_told_tied_any_at .later 5 Tryf.f5 "fmt.errorf" [] [] _ _ _ _ _ (by kernel_rfl) rfl rfl rfl laidOut (by kernel_rfl) rfl ⟨rfl, rfl, rfl, rfl, rfl, rfl, rfl⟩ rfl rfl (by kernel_rfl) (by kernel_rfl) Tryf.func5 (by kernel_rfl)
    (of_decide_eq_true (by kernel_rfl)) (by unfold Func.isWrapper; first | (rw [if_pos (by decide +kernel)]; kernel_rfl) | (rw [if_neg (by decide +kernel)]; exact ⟨rfl, rfl⟩)) stopsAre.symm rfl stopKnobs.symm (by kernel_rfl)
    (by kernel_rfl) (by kernel_rfl) (by kernel_rfl) (by kernel_rfl) (by kernel_rfl) (by kernel_rfl) (by kernel_rfl) (by kernel_rfl) (by kernel_rfl) rfl (by kernel_rfl) rfl rfl
    rfl rfl
    rfl mainIs (by kernel_rfl) (by kernel_rfl) (by decide) (by kernel_rfl) fnInclusionSound_row_tie
    (OpenClaim.moreEntering_of mayEnter (by kernel_rfl) (by kernel_rfl) (by kernel_rfl) (by kernel_rfl) (by kernel_rfl) (by kernel_rfl) (by kernel_rfl) liftsFinal.symm make)
    ⟨_, WideRow.started_initial, quiet _⟩
    (fun os started _ H enc _ => lifted os started H enc)
end Go.Proofs.YtklofjhmgoejiaaFmt.fnInclusionSound
