/- proof.Consistency and impl.Consistency, where the first size is not 0 and less than the second. -/
import Derived.Test.YtniodnkejpbheaaFmtPlans
import Derived.Test.YtniodnkejpbheaaFmtPlanQ
namespace Go.Proofs.YtniodnkejpbheaaFmt
open Go.ChangeShapes Go.WideShapes Go.ChangeAt Go.RowKit
set_option maxRecDepth 20000
namespace Pl
/-- The node at the end of the first tree: its level, its index. -/
def cl (s : Nat) : Nat := Lib.ctz 64 s
def ci (s : Nat) : Nat := (s - 1) / 2 ^ cl s
def consL (s t : Nat) : List (Nat × Nat) := if ci s = 0 then (planL (cl s) (ci s) t).tail else planL (cl s) (ci s) t
def consB (s t : Nat) : Nat := if ci s = 0 then sk (planB (cl s) (ci s) t) (planE (cl s) (ci s) t) else planB (cl s) (ci s) t
def consE (s t : Nat) : Nat := if ci s = 0 then skE (planB (cl s) (ci s) t) (planE (cl s) (ci s) t) else planE (cl s) (ci s) t
end Pl
theorem cl_spec {s t : Nat} (h1 : 0 < s) (h2 : s < t) (ht : t < 18446744073709551616) : Pl.cl s < 64 ∧ Pl.ci s < t / 2 ^ Pl.cl s ∧ ∃ m, s = 2 ^ Pl.cl s * (2 * m + 1) ∧ Pl.ci s = 2 * m := by
  obtain ⟨m, hm, hk⟩ := ctz_odd s (by omega) (by omega)
  have e : Pl.ci s = 2 * m := by
    unfold Pl.ci Pl.cl
    generalize Lib.ctz 64 s = c at *
    have hp := Nat.two_pow_pos c
    rw [hm, Nat.mul_add, Nat.mul_one, Nat.div_eq_of_lt_le]
    · rw [Nat.mul_comm (2 * m)]; omega
    · rw [Nat.add_mul, Nat.mul_comm (2 * m)]; omega
  refine ⟨hk, ?_, m, hm, e⟩
  rw [e]
  unfold Pl.cl
  generalize Lib.ctz 64 s = c at *
  have : 2 * m + 1 ≤ t / 2 ^ c := (Nat.le_div_iff_mul_le (Nat.two_pow_pos c)).2 (by rw [Nat.mul_comm, ← hm]; omega)
  omega
theorem cons_len {s t : Nat} (h1 : 0 < s) (h2 : s < t) (ht : t < 18446744073709551616) : (Pl.consL s t).length ≤ 1000 := by
  have := Pl.plan_len (cl_spec h1 h2 ht).2.1 ht
  unfold Pl.consL
  split
  · simp; omega
  · exact this
set_option maxHeartbeats 1000000 in
theorem consistency_c (s t : Nat) (h1 : 0 < s) (h2 : s < t) (ht : t < 18446744073709551616) (w : World) (hT : Tab w) :
    Calls Tryf.prog 39 #[.int .u64 s, .int .u64 t] w (RetPlanT w (Pl.consL s t) (Pl.consB s t) (Pl.consE s t) (Pl.cl s + Pl.up (Pl.cl s) (Pl.ci s) t) (Pl.ephI (Pl.cl s) (Pl.ci s) t)) := by
  obtain ⟨k1, k2, _⟩ := cl_spec h1 h2 ht
  have hn := fun W hT => nodes_c (Pl.cl s) (Pl.ci s) t k2 ht W hT
  have hb := planB_le (Pl.cl s) (Pl.ci s) t k2 ht
  have htz := fun W hT => tz_c s (by omega) (by omega) W hT
  have hci : (s - 1) / 2 ^ Pl.cl s = Pl.ci s := rfl
  have hcl : Lib.ctz 64 s = Pl.cl s := rfl
  rw [hcl] at htz
  unfold Pl.consL Pl.consB Pl.consE
  obtain ⟨p, L, hp⟩ : ∃ p L, Pl.planL (Pl.cl s) (Pl.ci s) t = p :: L := ⟨_, _, rfl⟩
  rw [hp] at hn ⊢
  simp only [List.tail_cons]
  generalize Pl.planB (Pl.cl s) (Pl.ci s) t = b at hn hb ⊢
  generalize Pl.planE (Pl.cl s) (Pl.ci s) t = x at hn hb ⊢
  generalize Pl.cl s + Pl.up (Pl.cl s) (Pl.ci s) t = l at hn ⊢
  generalize Pl.ephI (Pl.cl s) (Pl.ci s) t = ei at hn ⊢
  have e1 : IntKind.u64.wrap ((s : Int) - 1) = ((s - 1 : Nat) : Int) := by rw [IntKind.wrap_u64]; omega
  have e2 : ((s - 1 : Nat) : Int) / 2 ^ Pl.cl s = (Pl.ci s : Int) := by rw [← hci]; simp
  generalize s - 1 = s1 at e1 e2
  have hci0 : Pl.ci s = Pl.ci s := rfl
  generalize Pl.ci s = ci at *
  generalize Pl.cl s = c at *
  have HN := Lib.hid hn
  have HT := Lib.hid hT
  have HZ := Lib.hid htz
  have hg : ¬ (t : Int) < (s : Int) := by omega
  have hg1 : ((s : Int) == (t : Int)) = false := by simp; omega
  have hg2 : ((s : Int) == 0) = false := by simp; omega
  have e3 : IntKind.u64.wrap (c : Int) = (c : Int) := wrapN c (by omega)
  have hmin : min c 64 = c := by omega
  clear hn hT htz hp hci hcl k2 hci0
  by_cases hc0 : ci = 0
  · simp only [if_pos hc0]
    have hz : ((ci : Int) == 0) = true := by simp [hc0]
    clear hc0
    go_enter Tryf.func39, Tryf.ntmps39
    go_wp2_with fail
    refine (HZ.out _ (HT.out.below ((Below.refl _ _).alloc (Nat.le_refl _) _))).mono ?_; rintro e w' ⟨rfl, rfl⟩
    go_wp2_with fail
    refine (HN.out _ (HT.out.below ((Below.refl _ _).alloc (Nat.le_refl _) _))).mono ?_
    rintro e w1 ⟨v, rfl, hv, hb1, hf1⟩
    have HR1 : Hid (Blk w1 w.heap.size 57 #[.slice none 0 0, .int .i64 0, .int .i64 0, .int .u64 0, .int .u64 0]) := (Blk.new _ _ _).below' hb1
    have B1 : Below w.heap.size w w1 := ((Below.refl _ _).alloc (Nat.le_refl _) _).trans (hb1.mono (by simp))
    obtain ⟨A, cap, rfl, _, _⟩ := id hv
    obtain ⟨bb1, bb2, bb3⟩ := hb
    have zr : w.heap.size < w1.heap.size := HR1.out.lt
    have hlt : w.heap.size < w.heap.size + 1 := by omega
    have HS := Lib.hid (fun W (hb : Below w1.heap.size w1 W) => skip_c (w.heap.size + 1) (.slice A (p :: L).length cap) p L b x l ei W (hv.below hb) bb1 bb2 bb3 (hf1.mono (by simp)))
    clear hv hb1 hf1 HN bb1 bb2 bb3
    go_wp2_with fail
    refine (HS.out _ ((Below.refl _ _).alloc (Nat.le_refl _) _)).mono ?_
    rintro e w2 ⟨v, rfl, hv2, hb2, hf2⟩
    have HR2 := (HR1.out.alloc _).below' hb2
    obtain ⟨A2, c2, rfl, _, _⟩ := id hv2
    have B2 : Below w.heap.size w w2 := (B1.alloc B1.size _).trans (hb2.mono (by have := B1.size; simp; omega))
    obtain ⟨r1, r2, r3, r4, r5, r6, r7, r8, r9, r10⟩ := HR2.five
    have HV := Lib.hid hv2
    have HF := Lib.hid hf2
    clear hv2 hf2 hb2 HS HR1
    go_wp2_with fail
    exact bodyPost_ret (v := .tuple #[.agg #[.slice A2 L.length c2, .int .i64 (sk b x : Int), .int .i64 (skE b x : Int), .int .u64 (l : Int), .int .u64 (ei : Int)], .nilIface]) (by simp [results, Tryf.results39, go_sem, r1, r2, r3, r4, r5]) rfl
      ⟨_, rfl, ((((HV.out.setCell HF.out (p := ⟨w.heap.size, 0, none⟩) hlt _).setCell HF.out (p := ⟨w.heap.size, 1, none⟩) hlt _).setCell HF.out (p := ⟨w.heap.size, 2, none⟩) hlt _).setCell HF.out (p := ⟨w.heap.size, 3, none⟩) hlt _).setCell HF.out (p := ⟨w.heap.size, 4, none⟩) hlt _,
        ((((B2.setCell (p := ⟨w.heap.size, 0, none⟩) (Nat.le_refl _) _).setCell (p := ⟨w.heap.size, 1, none⟩) (Nat.le_refl _) _).setCell (p := ⟨w.heap.size, 2, none⟩) (Nat.le_refl _) _).setCell (p := ⟨w.heap.size, 3, none⟩) (Nat.le_refl _) _).setCell (p := ⟨w.heap.size, 4, none⟩) (Nat.le_refl _) _⟩
  · simp only [if_neg hc0]
    have hz : ((ci : Int) == 0) = false := by simp; exact hc0
    clear hc0
    go_enter Tryf.func39, Tryf.ntmps39
    go_wp2_with fail
    refine (HZ.out _ (HT.out.below ((Below.refl _ _).alloc (Nat.le_refl _) _))).mono ?_; rintro e w' ⟨rfl, rfl⟩
    go_wp2_with fail
    refine (HN.out _ (HT.out.below ((Below.refl _ _).alloc (Nat.le_refl _) _))).mono ?_
    rintro e w1 ⟨v, rfl, hv, hb1, hf1⟩
    have HR1 : Hid (Blk w1 w.heap.size 57 #[.slice none 0 0, .int .i64 0, .int .i64 0, .int .u64 0, .int .u64 0]) := (Blk.new _ _ _).below' hb1
    have B1 : Below w.heap.size w w1 := ((Below.refl _ _).alloc (Nat.le_refl _) _).trans (hb1.mono (by simp))
    obtain ⟨A, cap, rfl, _, _⟩ := id hv
    obtain ⟨bb1, bb2, bb3⟩ := hb
    have zr : w.heap.size < w1.heap.size := HR1.out.lt
    have hlt : w.heap.size < w.heap.size + 1 := by omega
    obtain ⟨r1, r2, r3, r4, r5, r6, r7, r8, r9, r10⟩ := HR1.out.five
    have HV := Lib.hid hv
    have HF : Hid (Fresh (w.heap.size + 1) (.slice A (p :: L).length cap)) := Lib.hid (hf1.mono (by simp))
    clear hv hf1 hb1 HR1 HN
    go_wp2_with fail
    have B5 := ((((B1.setCell (p := ⟨w.heap.size, 0, none⟩) (Nat.le_refl _) (.slice A (L.length + 1) cap)).setCell (p := ⟨w.heap.size, 1, none⟩) (Nat.le_refl _) (.int .i64 (b : Int))).setCell (p := ⟨w.heap.size, 2, none⟩) (Nat.le_refl _) (.int .i64 (x : Int))).setCell (p := ⟨w.heap.size, 3, none⟩) (Nat.le_refl _) (.int .u64 (l : Int))).setCell (p := ⟨w.heap.size, 4, none⟩) (Nat.le_refl _) (.int .u64 (ei : Int))
    have V5 := ((((HV.out.setCell HF.out (p := ⟨w.heap.size, 0, none⟩) hlt (.slice A (L.length + 1) cap)).setCell HF.out (p := ⟨w.heap.size, 1, none⟩) hlt (.int .i64 (b : Int))).setCell HF.out (p := ⟨w.heap.size, 2, none⟩) hlt (.int .i64 (x : Int))).setCell HF.out (p := ⟨w.heap.size, 3, none⟩) hlt (.int .u64 (l : Int))).setCell HF.out (p := ⟨w.heap.size, 4, none⟩) hlt (.int .u64 (ei : Int))
    exact bodyPost_ret (v := .tuple #[.agg #[.slice A (L.length + 1) cap, .int .i64 (b : Int), .int .i64 (x : Int), .int .u64 (l : Int), .int .u64 (ei : Int)], .nilIface]) (by simp [results, Tryf.results39, go_sem, r1, r2, r3, r4, r5, zr]) rfl
      ⟨_, rfl, V5.below ((Below.refl _ _).alloc (Nat.le_refl _) _), B5.alloc B5.size _⟩
end Go.Proofs.YtniodnkejpbheaaFmt
