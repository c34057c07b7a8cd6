/- impl.Inclusion, where the index is in the tree. -/
import Derived.Test.YtniodnkejpbheaaFmtPlans
namespace Go.Proofs.YtniodnkejpbheaaFmt
open Go.ChangeShapes Go.WideShapes Go.ChangeAt Go.RowKit
set_option maxRecDepth 20000
theorem implIncl (i s : Nat) (h : i < s) (hs : s < 18446744073709551616) (w : World) (hT : Tab w) :
    Calls Tryf.prog 15 #[.int .u64 i, .int .u64 s] w (RetPlanO w (Pl.planL 0 i s).tail (sk (Pl.planB 0 i s) (Pl.planE 0 i s)) (skE (Pl.planB 0 i s) (Pl.planE 0 i s)) (0 + Pl.up 0 i s) (Pl.ephI 0 i s)) := by
  have HI := Lib.hid fun W hT => inclusion_c i s h hs W hT
  have HT := Lib.hid hT
  have hlen : (Pl.planL 0 i s).tail.length ≤ 1000 := by
    have l1 := Pl.pieces_len (Pl.fend 0 i (Pl.up 0 i s)) s hs
    have h0 : i < s / 2 ^ 0 := by simpa using h
    have hu := Pl.up_spec h0 hs
    have hp2 := Nat.two_pow_pos (0 + Pl.up 0 i s)
    have l0 := Pl.pieces_len 0 (Pl.fbeg 0 i (Pl.up 0 i s)) (by omega)
    unfold Pl.planL
    simp [Pl.sibs_length]
    omega
  generalize (Pl.planL 0 i s).tail = L at HI hlen ⊢
  generalize sk (Pl.planB 0 i s) (Pl.planE 0 i s) = b at HI ⊢
  generalize skE (Pl.planB 0 i s) (Pl.planE 0 i s) = x at HI ⊢
  generalize 0 + Pl.up 0 i s = l at HI ⊢
  generalize Pl.ephI 0 i s = ei at HI ⊢
  clear hT
  go_enter Tryf.func15, Tryf.ntmps15
  go_wp2_with fail
  refine (HI.out _ (HT.out.below ((Below.refl _ _).alloc (Nat.le_refl _) _))).mono ?_
  rintro e w1 ⟨v, rfl, hv, hb1⟩
  have HR1 : Hid (Blk w1 w.heap.size 28 #[.slice none 0 0, .int .u64 0, .int .u64 0, .int .i64 0, .int .i64 0]) := (Blk.new _ _ _).below' hb1
  have B1 : Below w.heap.size w w1 := ((Below.refl _ _).alloc (Nat.le_refl _) _).trans (hb1.mono (by simp))
  obtain ⟨A, cap, rfl, _, _⟩ := id hv
  have HV := Lib.hid hv
  clear hv hb1 HI
  go_wp2_with fail
  refine (planOf_c (.slice A L.length cap) L b x l ei _ (HV.out.below ((Below.refl _ _).alloc (Nat.le_refl _) _)) (show L.length ≤ 4294967296 by omega)).mono ?_
  rintro e w2 ⟨v, rfl, hv2, hb2, hf2⟩
  have HR2 := (HR1.out.alloc (.cells #[.slice A L.length cap, .int .i64 (b : Int), .int .i64 (x : Int), .int .u64 (l : Int), .int .u64 (ei : Int)] 57)).below' hb2
  obtain ⟨A2, c2, rfl, _, _⟩ := id hv2
  have B2 : Below w.heap.size w w2 := (B1.alloc B1.size _).trans (hb2.mono (by have := B1.size; simp; omega))
  have hlt : w.heap.size < w1.heap.size + 1 := by have := B1.size; omega
  obtain ⟨r1, r2, r3, r4, r5, r6, r7, r8, r9, r10⟩ := HR2.five
  have HV2 := Lib.hid hv2
  have HF : Hid (Fresh (w1.heap.size + 1) (.slice A2 L.length c2)) := Lib.hid (hf2.mono (by simp))
  have hfw : Hid (Fresh w.heap.size (.slice A2 L.length c2)) := Lib.hid (HF.out.mono (by omega))
  clear hv2 hf2 hb2 HR1 HV
  go_wp2_with fail
  exact bodyPost_ret (v := .tuple #[.agg #[.slice A2 L.length c2, .int .u64 (l : Int), .int .u64 (ei : Int), .int .i64 (b : Int), .int .i64 (x : Int)], .bool true]) (by simp [results, Tryf.results15, go_sem, r1, r2, r3, r4, r5]) rfl
    ⟨_, rfl, ((((HV2.out.setCell HF.out (p := ⟨w.heap.size, 0, none⟩) hlt _).setCell HF.out (p := ⟨w.heap.size, 1, none⟩) hlt _).setCell HF.out (p := ⟨w.heap.size, 2, none⟩) hlt _).setCell HF.out (p := ⟨w.heap.size, 3, none⟩) hlt _).setCell HF.out (p := ⟨w.heap.size, 4, none⟩) hlt _,
      ((((B2.setCell (p := ⟨w.heap.size, 0, none⟩) (Nat.le_refl _) _).setCell (p := ⟨w.heap.size, 1, none⟩) (Nat.le_refl _) _).setCell (p := ⟨w.heap.size, 2, none⟩) (Nat.le_refl _) _).setCell (p := ⟨w.heap.size, 3, none⟩) (Nat.le_refl _) _).setCell (p := ⟨w.heap.size, 4, none⟩) (Nat.le_refl _) _⟩
end Go.Proofs.YtniodnkejpbheaaFmt
