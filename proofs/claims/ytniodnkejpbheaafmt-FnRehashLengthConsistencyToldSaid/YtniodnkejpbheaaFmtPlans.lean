/- proof.Inclusion and impl.Inclusion, where the index is in the tree. -/
import Derived.Test.YtniodnkejpbheaaFmtNodesC
import Derived.Test.YtniodnkejpbheaaFmtPlan
namespace Go.Proofs.YtniodnkejpbheaaFmt
open Go.ChangeShapes Go.WideShapes Go.ChangeAt Go.RowKit
set_option maxRecDepth 20000
/-- A plan and no error. -/
def RetPlanT (w : World) (L : List (Nat × Nat)) (b x l i : Nat) (e : Ending) (w' : World) : Prop :=
  ∃ v, e = .returned (.tuple #[.agg #[v, .int .i64 (b : Int), .int .i64 (x : Int), .int .u64 (l : Int), .int .u64 (i : Int)], .nilIface]) ∧ NodesR w' v L ∧ Below w.heap.size w w'
/-- The thin function's plan, and true. -/
def RetPlanO (w : World) (L : List (Nat × Nat)) (b x l i : Nat) (e : Ending) (w' : World) : Prop :=
  ∃ v, e = .returned (.tuple #[.agg #[v, .int .u64 (l : Int), .int .u64 (i : Int), .int .i64 (b : Int), .int .i64 (x : Int)], .bool true]) ∧ NodesR w' v L ∧ Below w.heap.size w w'
theorem planB_le (l i s : Nat) (h : i < s / 2 ^ l) (hs : s < 18446744073709551616) : Pl.planB l i s ≤ 1000 ∧ Pl.planE l i s ≤ 1000 ∧ (Pl.planB l i s < Pl.planE l i s → 1 ≤ Pl.planB l i s) := by
  have u1 := (Pl.up_spec h hs).1
  have l1 := Pl.pieces_len (Pl.fend l i (Pl.up l i s)) s hs
  unfold Pl.planB Pl.planE
  split <;> omega
theorem inclusion_c (i s : Nat) (h : i < s) (hs : s < 18446744073709551616) (w : World) (hT : Tab w) :
    Calls Tryf.prog 33 #[.int .u64 i, .int .u64 s] w (RetPlanT w (Pl.planL 0 i s).tail (sk (Pl.planB 0 i s) (Pl.planE 0 i s)) (skE (Pl.planB 0 i s) (Pl.planE 0 i s)) (0 + Pl.up 0 i s) (Pl.ephI 0 i s)) := by
  have hg : ¬ (s : Int) ≤ (i : Int) := by omega
  have h0 : i < s / 2 ^ 0 := by simpa using h
  have hn := fun W hT => nodes_c 0 i s h0 hs W hT
  have hb := planB_le 0 i s h0 hs
  obtain ⟨p, L, hp⟩ : ∃ p L, Pl.planL 0 i s = p :: L := ⟨_, _, rfl⟩
  rw [hp] at hn ⊢
  simp only [List.tail_cons]
  generalize Pl.planB 0 i s = b at hn hb ⊢
  generalize Pl.planE 0 i s = x at hn hb ⊢
  generalize 0 + Pl.up 0 i s = l at hn ⊢
  generalize Pl.ephI 0 i s = ei at hn ⊢
  have HN := Lib.hid hn
  have HT := Lib.hid hT
  clear hn hT hp
  go_enter Tryf.func33, Tryf.ntmps33
  go_wp2_with fail
  refine (HN.out _ (HT.out.below ((Below.refl _ _).alloc (Nat.le_refl _) _))).mono ?_
  rintro e w1 ⟨v, rfl, hv, hb1, hf1⟩
  have HR1 : Hid (Blk w1 w.heap.size 57 #[.slice none 0 0, .int .i64 0, .int .i64 0, .int .u64 0, .int .u64 0]) := (Blk.new _ _ _).below' hb1
  have B1 : Below w.heap.size w w1 := ((Below.refl _ _).alloc (Nat.le_refl _) _).trans (hb1.mono (by simp))
  have hv0 := hv
  obtain ⟨A, cap, rfl, _, _⟩ := hv0
  obtain ⟨bb1, bb2, bb3⟩ := hb
  have HS := Lib.hid (skip_c (w.heap.size + 1) (.slice A (p :: L).length cap) p L b x l ei w1 hv bb1 bb2 bb3 (hf1.mono (by simp)))
  clear hv hb1 hf1 HN bb1 bb2 bb3
  go_wp2_with fail
  refine HS.out.mono ?_
  rintro e w2 ⟨v, rfl, hv2, hb2, hf2⟩
  have HR2 := HR1.out.below' hb2
  obtain ⟨A2, c2, rfl, _, _⟩ := id hv2
  have B2 : Below w.heap.size w w2 := B1.trans (hb2.mono (by have := B1.size; omega))
  obtain ⟨r1, r2, r3, r4, r5, r6, r7, r8, r9, r10⟩ := HR2.five
  have HV := Lib.hid hv2
  have HF := Lib.hid hf2
  clear hv2 hf2 hb2 HS HR1
  go_wp2_with fail
  have hlt : w.heap.size < w.heap.size + 1 := by omega
  exact bodyPost_ret (v := .tuple #[.agg #[.slice A2 L.length c2, .int .i64 (sk b x : Int), .int .i64 (skE b x : Int), .int .u64 (l : Int), .int .u64 (ei : Int)], .nilIface]) (by simp [results, Tryf.results33, go_sem, r1, r2, r3, r4, r5]) rfl
    ⟨_, rfl, ((((HV.out.setCell HF.out (p := ⟨w.heap.size, 0, none⟩) hlt _).setCell HF.out (p := ⟨w.heap.size, 1, none⟩) hlt _).setCell HF.out (p := ⟨w.heap.size, 2, none⟩) hlt _).setCell HF.out (p := ⟨w.heap.size, 3, none⟩) hlt _).setCell HF.out (p := ⟨w.heap.size, 4, none⟩) hlt _,
      ((((B2.setCell (p := ⟨w.heap.size, 0, none⟩) (Nat.le_refl _) _).setCell (p := ⟨w.heap.size, 1, none⟩) (Nat.le_refl _) _).setCell (p := ⟨w.heap.size, 2, none⟩) (Nat.le_refl _) _).setCell (p := ⟨w.heap.size, 3, none⟩) (Nat.le_refl _) _).setCell (p := ⟨w.heap.size, 4, none⟩) (Nat.le_refl _) _⟩
end Go.Proofs.YtniodnkejpbheaaFmt
