/- impl.Consistency: between different sizes, and between equal ones. -/
import Derived.Test.YtniodnkejpbheaaFmtConsPlan
import Derived.Test.YtniodnkejpbheaaFmtImplPlan
import Derived.Test.YtniodnkejpbheaaFmtConsEq
namespace Go.Proofs.YtniodnkejpbheaaFmt
open Go.ChangeShapes Go.WideShapes Go.ChangeAt Go.RowKit
set_option maxRecDepth 100000
theorem implCons (i s : Nat) (h0 : 0 < i) (h : i < s) (hs : s < 18446744073709551616) (w : World) (hT : Tab w) :
    Calls Tryf.prog 21 #[.int .u64 i, .int .u64 s] w (RetPlanO w (Pl.consL i s) (Pl.consB i s) (Pl.consE i s) (Pl.cl i + Pl.up (Pl.cl i) (Pl.ci i) s) (Pl.ephI (Pl.cl i) (Pl.ci i) s)) := by
  have HI := Lib.hid fun W hT => consistency_c i s h0 h hs W hT
  have HT := Lib.hid hT
  have hlen := cons_len h0 h hs
  generalize Pl.consL i s = L at HI hlen ⊢
  generalize Pl.consB i s = b at HI ⊢
  generalize Pl.consE i s = x at HI ⊢
  generalize Pl.cl i + Pl.up (Pl.cl i) (Pl.ci i) s = l at HI ⊢
  generalize Pl.ephI (Pl.cl i) (Pl.ci i) s = ei at HI ⊢
  clear hT
  go_enter Tryf.func21, Tryf.ntmps21
  go_wp2_with fail
  refine (HI.out _ (HT.out.below ((Below.refl _ _).alloc (Nat.le_refl _) _))).mono ?_
  rintro e w1 ⟨v, rfl, hv, hb1⟩
  have HR1 : Hid (Blk w1 w.heap.size 28 #[.slice none 0 0, .int .u64 0, .int .u64 0, .int .i64 0, .int .i64 0]) := (Blk.new _ _ _).below' hb1
  have B1 : Below w.heap.size w w1 := ((Below.refl _ _).alloc (Nat.le_refl _) _).trans (hb1.mono (by simp))
  obtain ⟨A, cap, rfl, _, _⟩ := id hv
  have HV := Lib.hid hv
  clear hv hb1 HI
  go_wp2_with fail
  refine (planOf_c (.slice A L.length cap) L b x l ei _ (HV.out.below ((Below.refl _ _).alloc (Nat.le_refl _) _)) (show L.length ≤ 4294967296 by omega)).mono ?_
  rintro e w2 ⟨v, rfl, hv2, hb2, hf2⟩
  have HR2 := (HR1.out.alloc (.cells #[.slice A L.length cap, .int .i64 (b : Int), .int .i64 (x : Int), .int .u64 (l : Int), .int .u64 (ei : Int)] 57)).below' hb2
  obtain ⟨A2, c2, rfl, _, _⟩ := id hv2
  have B2 : Below w.heap.size w w2 := (B1.alloc B1.size _).trans (hb2.mono (by have := B1.size; simp; omega))
  have hlt : w.heap.size < w1.heap.size + 1 := by have := B1.size; omega
  obtain ⟨r1, r2, r3, r4, r5, r6, r7, r8, r9, r10⟩ := HR2.five
  have HV2 := Lib.hid hv2
  have HF : Hid (Fresh (w1.heap.size + 1) (.slice A2 L.length c2)) := Lib.hid (hf2.mono (by simp))
  have hfw : Hid (Fresh w.heap.size (.slice A2 L.length c2)) := Lib.hid (HF.out.mono (by omega))
  clear hv2 hf2 hb2 HR1 HV
  go_wp2_with fail
  exact bodyPost_ret (v := .tuple #[.agg #[.slice A2 L.length c2, .int .u64 (l : Int), .int .u64 (ei : Int), .int .i64 (b : Int), .int .i64 (x : Int)], .bool true]) (by simp [results, Tryf.results21, go_sem, r1, r2, r3, r4, r5]) rfl
    ⟨_, rfl, ((((HV2.out.setCell HF.out (p := ⟨w.heap.size, 0, none⟩) hlt _).setCell HF.out (p := ⟨w.heap.size, 1, none⟩) hlt _).setCell HF.out (p := ⟨w.heap.size, 2, none⟩) hlt _).setCell HF.out (p := ⟨w.heap.size, 3, none⟩) hlt _).setCell HF.out (p := ⟨w.heap.size, 4, none⟩) hlt _,
      ((((B2.setCell (p := ⟨w.heap.size, 0, none⟩) (Nat.le_refl _) _).setCell (p := ⟨w.heap.size, 1, none⟩) (Nat.le_refl _) _).setCell (p := ⟨w.heap.size, 2, none⟩) (Nat.le_refl _) _).setCell (p := ⟨w.heap.size, 3, none⟩) (Nat.le_refl _) _).setCell (p := ⟨w.heap.size, 4, none⟩) (Nat.le_refl _) _⟩
theorem implSame (n : Nat) (w : World) : Calls Tryf.prog 21 #[.int .u64 n, .int .u64 n] w fun r w' => ∃ A cap, r = .returned (.tuple #[.agg #[.slice A 0 cap, .int .u64 0, .int .u64 0, .int .i64 0, .int .i64 0], .bool true]) ∧ NodesR w' (.slice A 0 cap) [] ∧ Below w.heap.size w w' := by
  go_enter Tryf.func21, Tryf.ntmps21
  go_wp2_with fail
  refine (consSame_c n _).mono ?_; rintro r w1 ⟨v, rfl, hv, hb1⟩
  have hv0 := hv
  obtain ⟨A, cap, rfl, _, _⟩ := hv0
  go_wp2_with fail
  have hv1 := hv.below ((Below.refl _ _).alloc (Nat.le_refl w1.heap.size) (.cells #[.slice A 0 cap, .int .i64 0, .int .i64 0, .int .u64 0, .int .u64 0] 57))
  obtain ⟨hc1, hf1, hz1⟩ := bcell hb1
  simp only [World.size_alloc] at hc1 hf1 hz1
  have z1 : w.heap.size < w1.heap.size := by omega
  have B1 : Below w.heap.size w w1 := ((Below.refl _ _).alloc (Nat.le_refl _) _).trans (hb1.mono (by simp))
  clear hb1 hv
  refine (planOf_c (.slice A 0 cap) [] 0 0 0 0 _ hv1 (by simp [Room])).mono ?_; rintro r w2 ⟨v, rfl, hv2, hb2, _⟩
  obtain ⟨hc2, hf2, hz2⟩ := bcell hb2
  simp only [World.size_alloc] at hc2 hf2 hz2
  have z2 : w.heap.size < w2.heap.size := by omega
  have z3 : w.heap.size < w1.heap.size + 1 := by omega
  have B2 : Below w.heap.size w w2 := (B1.alloc B1.size _).trans (hb2.mono (by simp; omega))
  clear hb2 hv1 B1
  obtain ⟨A2, cap2, rfl, _, _⟩ := hv2
  go_wp2_with fail
  have B5 := ((((B2.setCell (p := ⟨w.heap.size, 0, none⟩) (by simp) (.slice A2 0 cap2)).setCell (p := ⟨w.heap.size, 1, none⟩) (by simp) (.int .u64 0)).setCell (p := ⟨w.heap.size, 2, none⟩) (by simp) (.int .u64 0)).setCell (p := ⟨w.heap.size, 3, none⟩) (by simp) (.int .i64 0)).setCell (p := ⟨w.heap.size, 4, none⟩) (by simp) (.int .i64 0)
  have y1 : ∀ o, w2.cell? ⟨w.heap.size, o, none⟩ = (w.alloc (.cells #[.slice none 0 0, .int .u64 0, .int .u64 0, .int .i64 0, .int .i64 0] 28)).cell? ⟨w.heap.size, o, none⟩ := fun o => by
    rw [hc2 _ _ z3, World.cell?_alloc_past _ _ _ z1, hc1 _ _ (by omega)]
  have k3 : w2.cell? ⟨w.heap.size, 0, none⟩ = some (.slice none 0 0) := by rw [y1]; simp
  have k4 : w2.cell? ⟨w.heap.size, 1, none⟩ = some (.int .u64 0) := by rw [y1]; simp
  have k5 : w2.cell? ⟨w.heap.size, 2, none⟩ = some (.int .u64 0) := by rw [y1]; simp
  have k6 : w2.cell? ⟨w.heap.size, 3, none⟩ = some (.int .i64 0) := by rw [y1]; simp
  have k7 : w2.cell? ⟨w.heap.size, 4, none⟩ = some (.int .i64 0) := by rw [y1]; simp
  exact bodyPost_ret (v := .tuple #[.agg #[.slice A2 0 cap2, .int .u64 0, .int .u64 0, .int .i64 0, .int .i64 0], .bool true]) (by simp [results, Tryf.results21, go_sem, k3, k4, k5, k6, k7]) rfl ⟨_, _, rfl, ⟨_, _, rfl, Nat.zero_le _, fun h => absurd h (by decide)⟩, B5⟩
end Go.Proofs.YtniodnkejpbheaaFmt
