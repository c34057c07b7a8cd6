/- What impl.planOf makes of a plan. -/
import Derived.Test.YtobnmgnnidhfkaaFmtPieces
import Derived.Outline
import Derived.Deep.RegionWith
import Derived.Below
import Derived.Test.YtobnmgnnidhfkaaFmtNode
import Derived.Test.YtobnmgnnidhfkaaFmtNodesFn
import Derived.Test.YtobnmgnnidhfkaaFmtMth
namespace Go.Proofs.YtobnmgnnidhfkaaFmt
open Go.ChangeShapes Go.WideShapes Go.ChangeAt Go.RowKit
set_option maxRecDepth 20000
/-- A nodes' plan: its list, the part's begin and end, the node of the part. -/
def planV (v : Value) (b e l i : Int) : Value := .agg #[v, .int .i64 b, .int .i64 e, .int .u64 l, .int .u64 i]
theorem ephem_c (v : Value) (A : Option Addr) (n cap : Nat) (hv : v = .slice A n cap) (b e l i : Int) (w : World) : Calls Tryf.prog 39 #[.agg #[v, .int .i64 b, .int .i64 e, .int .u64 l, .int .u64 i]] w fun r w' => r = .returned (.tuple #[.agg #[.int .u64 l, .int .u64 i], .int .i64 b, .int .i64 e]) ∧ Below w.heap.size w w' := by
  subst hv
  go_enter Tryf.func39, Tryf.ntmps39
  go_wp2_with fail
  go_region
  all_goals go_wp2
  refine bodyPost_ret (v := .tuple #[.agg #[.int .u64 l, .int .u64 i], .int .i64 b, .int .i64 e]) (by simp [results, Tryf.results39, go_sem]) rfl ?_
  exact ⟨rfl, (((Below.refl _ _).alloc (Nat.le_refl _) _).alloc (by simp) _).drew⟩
def RetPlan (w : World) (L : List (Nat × Nat)) (b e l i : Int) (r : Ending) (w' : World) : Prop := ∃ v, r = .returned (.agg #[v, .int .u64 l, .int .u64 i, .int .i64 b, .int .i64 e]) ∧ NodesR w' v L ∧ Below w.heap.size w w' ∧ Fresh w.heap.size v
set_option maxHeartbeats 4000000 in
theorem planOf_c (v : Value) (L : List (Nat × Nat)) (b e l i : Int) (w : World) (hv : NodesR w v L) (hroom : Room L.length) : Calls Tryf.prog 22 #[.agg #[v, .int .i64 b, .int .i64 e, .int .u64 l, .int .u64 i]] w (RetPlan w L b e l i) := by
  have HV : Hid (NodesR w v L ∧ Room L.length) := ⟨hv, hroom⟩
  obtain ⟨A, cap, rfl, _, _⟩ := hv
  clear hroom
  go_enter Tryf.func22, Tryf.ntmps22
  go_wp2_with (go_at_call 39; refine (ephem_c _ A L.length cap rfl b e l i _).mono ?_; rintro e' w' ⟨rfl, hb⟩)
  obtain ⟨hc1, hf1, hz1⟩ := bcell hb
  simp only [World.size_alloc] at hc1 hf1 hz1
  have z1 : w.heap.size < w'.heap.size := by omega
  have z2 : w.heap.size + 1 < w'.heap.size := by omega
  have B1 : Below w.heap.size w w' := (((Below.refl _ _).alloc (Nat.le_refl _) _).alloc (by simp) _).trans (hb.mono (by simp; omega))
  clear hb
  have hN : NodesR (w'.alloc (.cells #[.int .u64 l, .int .u64 i] 60)).drew (.slice A L.length cap) L := HV.out.1.below (B1.alloc B1.size _).drew
  have HKey : Hid (∀ {w2 : World}, Below (w'.alloc (.cells #[.int .u64 l, .int .u64 i] 60)).drew.heap.size (w'.alloc (.cells #[.int .u64 l, .int .u64 i] 60)).drew w2 →
      w2.cell? ⟨w'.heap.size, 0, none⟩ = some (.int .u64 l) ∧ w2.cell? ⟨w'.heap.size, 1, none⟩ = some (.int .u64 i) ∧ w2.cell? ⟨w.heap.size + 1, 0, none⟩ = some (.slice none 0 0) ∧ w2.cell? ⟨w.heap.size + 1, 1, none⟩ = some (.int .u64 0) ∧
      w2.cell? ⟨w.heap.size + 1, 2, none⟩ = some (.int .u64 0) ∧ w2.cell? ⟨w.heap.size + 1, 3, none⟩ = some (.int .i64 0) ∧ w2.cell? ⟨w.heap.size + 1, 4, none⟩ = some (.int .i64 0) ∧
      w2.frozen? ⟨w.heap.size + 1, 0, none⟩ = false ∧ w2.frozen? ⟨w.heap.size + 1, 1, none⟩ = false ∧ w2.frozen? ⟨w.heap.size + 1, 2, none⟩ = false ∧ w2.frozen? ⟨w.heap.size + 1, 3, none⟩ = false ∧ w2.frozen? ⟨w.heap.size + 1, 4, none⟩ = false ∧
      w'.heap.size + 1 ≤ w2.heap.size) := fun {w2} hb => by
    obtain ⟨x1, x2, x3⟩ := bcell hb
    have e : (w'.alloc (.cells #[.int .u64 l, .int .u64 i] 60)).drew.heap.size = w'.heap.size + 1 := by show (w'.alloc _).heap.size = _; simp
    rw [e] at x1 x2 x3
    have y1 : ∀ o, w2.cell? ⟨w.heap.size + 1, o, none⟩ = w'.cell? ⟨w.heap.size + 1, o, none⟩ := fun o => by
      rw [x1 _ _ (by omega)]; exact World.cell?_alloc_past _ _ _ (by omega)
    have y2 : ∀ o, w2.frozen? ⟨w.heap.size + 1, o, none⟩ = w'.frozen? ⟨w.heap.size + 1, o, none⟩ := fun o => by
      rw [x2 _ _ (by omega)]; exact World.frozen?_alloc_past _ _ _ (by omega)
    refine ⟨?_, ?_, ?_, ?_, ?_, ?_, ?_, ?_, ?_, ?_, ?_, ?_, x3⟩
    · rw [x1 _ _ (by omega)]; show (w'.alloc _).cell? _ = _; simp
    · rw [x1 _ _ (by omega)]; show (w'.alloc _).cell? _ = _; simp
    all_goals first | (rw [y1, hc1 _ _ (by omega)]; simp; done) | (rw [y2, hf1 _ _ (by omega)]; simp; done)
  go_region_with (go_at_call 40; refine (nodesOf_c _ L _ hN HV.out.2).mono ?_; rintro e' w2 ⟨v2, rfl, hown2, hb2⟩; obtain ⟨A2, cap2, rfl, _⟩ := own_slice hown2; obtain ⟨k1, k2, k3, k4, k5, k6, k7, k8, k9, k10, k11, k12, hz2⟩ := HKey.out hb2)
  all_goals
    have hlt : w.heap.size + 1 < (w'.alloc (.cells #[.int .u64 l, .int .u64 i] 60)).drew.heap.size := by show _ < (w'.alloc _).heap.size; simp; omega
    have o5 := ownsRow_setCell_below (ownsRow_setCell_below (ownsRow_setCell_below (ownsRow_setCell_below (ownsRow_setCell_below hown2 (a := ⟨w.heap.size + 1, 0, none⟩) hlt (.slice A2 L.length cap2)) (a := ⟨w.heap.size + 1, 1, none⟩) hlt (.int .u64 l)) (a := ⟨w.heap.size + 1, 2, none⟩) hlt (.int .u64 i)) (a := ⟨w.heap.size + 1, 3, none⟩) hlt (.int .i64 b)) (a := ⟨w.heap.size + 1, 4, none⟩) hlt (.int .i64 e)
    have B2 : Below w.heap.size w w2 := (B1.alloc B1.size _).drew.trans (hb2.mono (by omega))
    have B5 := ((((B2.setCell (p := ⟨w.heap.size + 1, 0, none⟩) (by simp) (.slice A2 L.length cap2)).setCell (p := ⟨w.heap.size + 1, 1, none⟩) (by simp) (.int .u64 l)).setCell (p := ⟨w.heap.size + 1, 2, none⟩) (by simp) (.int .u64 i)).setCell (p := ⟨w.heap.size + 1, 3, none⟩) (by simp) (.int .i64 b)).setCell (p := ⟨w.heap.size + 1, 4, none⟩) (by simp) (.int .i64 e)
    have n5 := NodesR.of_own o5
    have fr5 : Fresh w.heap.size (.slice A2 L.length cap2) := (own_fresh hown2).mono (by omega)
    clear hc1 hf1 hN HKey hb2 hown2 o5 B1 B2 hlt HV
    go_wp2
    exact bodyPost_ret (v := .agg #[.slice A2 L.length cap2, .int .u64 l, .int .u64 i, .int .i64 b, .int .i64 e]) (by simp [results, Tryf.results22, go_sem, k3, k4, k5, k6, k7]) rfl ⟨_, rfl, n5, B5, fr5⟩
end Go.Proofs.YtobnmgnnidhfkaaFmt
/- impl.Consistency between equal sizes. -/
namespace Go.Proofs.YtobnmgnnidhfkaaFmt
open Go.ChangeShapes Go.WideShapes Go.ChangeAt Go.RowKit
set_option maxRecDepth 20000
theorem consSame_c (n : Nat) (w : World) : Calls Tryf.prog 31 #[.int .u64 n, .int .u64 n] w fun e w' => ∃ v, e = .returned (.tuple #[.agg #[v, .int .i64 0, .int .i64 0, .int .u64 0, .int .u64 0], .nilIface]) ∧ NodesR w' v [] ∧ Below w.heap.size w w' := by
  go_enter Tryf.func31, Tryf.ntmps31
  go_wp2_with fail
  refine bodyPost_ret (v := .tuple #[.agg #[.slice (some ⟨w.heap.size + 1, 0, none⟩) 0 0, .int .i64 0, .int .i64 0, .int .u64 0, .int .u64 0], .nilIface]) (by simp [results, Tryf.results31, go_sem]) rfl ?_
  exact ⟨_, rfl, ⟨_, 0, rfl, Nat.le_refl _, fun h => absurd h (by decide)⟩, ((Below.refl _ _).alloc (Nat.le_refl _) _).alloc (by simp) _⟩
end Go.Proofs.YtobnmgnnidhfkaaFmt
/- proof.Inclusion and impl.Inclusion, where the index is in the tree. -/
namespace Go.Proofs.YtobnmgnnidhfkaaFmt
open Go.ChangeShapes Go.WideShapes Go.ChangeAt Go.RowKit
set_option maxRecDepth 20000
/-- A plan and no error. -/
def RetPlanT (w : World) (L : List (Nat × Nat)) (b x l i : Nat) (e : Ending) (w' : World) : Prop :=
  ∃ v, e = .returned (.tuple #[.agg #[v, .int .i64 (b : Int), .int .i64 (x : Int), .int .u64 (l : Int), .int .u64 (i : Int)], .nilIface]) ∧ NodesR w' v L ∧ Below w.heap.size w w'
/-- The thin function's plan, and true. -/
def RetPlanO (w : World) (L : List (Nat × Nat)) (b x l i : Nat) (e : Ending) (w' : World) : Prop :=
  ∃ v, e = .returned (.tuple #[.agg #[v, .int .u64 (l : Int), .int .u64 (i : Int), .int .i64 (b : Int), .int .i64 (x : Int)], .bool true]) ∧ NodesR w' v L ∧ Below w.heap.size w w'
theorem planB_le (l i s : Nat) (h : i < s / 2 ^ l) (hs : s < 18446744073709551616) : Pl.planB l i s ≤ 1000 ∧ Pl.planE l i s ≤ 1000 ∧ (Pl.planB l i s < Pl.planE l i s → 1 ≤ Pl.planB l i s) := by
  have u1 := (Pl.up_spec h hs).1
  have l1 := Pl.pieces_len (Pl.fend l i (Pl.up l i s)) s hs
  unfold Pl.planB Pl.planE
  split <;> omega
theorem inclusion_c (i s : Nat) (h : i < s) (hs : s < 18446744073709551616) (w : World) (hT : Tab w) :
    Calls Tryf.prog 21 #[.int .u64 i, .int .u64 s] w (RetPlanT w (Pl.planL 0 i s).tail (sk (Pl.planB 0 i s) (Pl.planE 0 i s)) (skE (Pl.planB 0 i s) (Pl.planE 0 i s)) (0 + Pl.up 0 i s) (Pl.ephI 0 i s)) := by
  have hg : ¬ (s : Int) ≤ (i : Int) := by omega
  have h0 : i < s / 2 ^ 0 := by simpa using h
  have hn := fun W hT => nodes_c 0 i s h0 hs W hT
  have hb := planB_le 0 i s h0 hs
  obtain ⟨p, L, hp⟩ : ∃ p L, Pl.planL 0 i s = p :: L := ⟨_, _, rfl⟩
  rw [hp] at hn ⊢
  simp only [List.tail_cons]
  generalize Pl.planB 0 i s = b at hn hb ⊢
  generalize Pl.planE 0 i s = x at hn hb ⊢
  generalize 0 + Pl.up 0 i s = l at hn ⊢
  generalize Pl.ephI 0 i s = ei at hn ⊢
  have HN := Lib.hid hn
  have HT := Lib.hid hT
  clear hn hT hp
  go_enter Tryf.func21, Tryf.ntmps21
  go_wp2_with fail
  refine (HN.out _ (HT.out.below ((Below.refl _ _).alloc (Nat.le_refl _) _))).mono ?_
  rintro e w1 ⟨v, rfl, hv, hb1, hf1⟩
  have HR1 : Hid (Blk w1 w.heap.size 62 #[.slice none 0 0, .int .i64 0, .int .i64 0, .int .u64 0, .int .u64 0]) := (Blk.new _ _ _).below' hb1
  have B1 : Below w.heap.size w w1 := ((Below.refl _ _).alloc (Nat.le_refl _) _).trans (hb1.mono (by simp))
  have hv0 := hv
  obtain ⟨A, cap, rfl, _, _⟩ := hv0
  obtain ⟨bb1, bb2, bb3⟩ := hb
  have HS := Lib.hid (skip_c (w.heap.size + 1) (.slice A (p :: L).length cap) p L b x l ei w1 hv bb1 bb2 bb3 (hf1.mono (by simp)))
  clear hv hb1 hf1 HN bb1 bb2 bb3
  go_wp2_with fail
  refine HS.out.mono ?_
  rintro e w2 ⟨v, rfl, hv2, hb2, hf2⟩
  have HR2 := HR1.out.below' hb2
  obtain ⟨A2, c2, rfl, _, _⟩ := id hv2
  have B2 : Below w.heap.size w w2 := B1.trans (hb2.mono (by have := B1.size; omega))
  obtain ⟨r1, r2, r3, r4, r5, r6, r7, r8, r9, r10⟩ := HR2.five
  have HV := Lib.hid hv2
  have HF := Lib.hid hf2
  clear hv2 hf2 hb2 HS HR1
  go_wp2_with fail
  have hlt : w.heap.size < w.heap.size + 1 := by omega
  exact bodyPost_ret (v := .tuple #[.agg #[.slice A2 L.length c2, .int .i64 (sk b x : Int), .int .i64 (skE b x : Int), .int .u64 (l : Int), .int .u64 (ei : Int)], .nilIface]) (by simp [results, Tryf.results21, go_sem, r1, r2, r3, r4, r5]) rfl
    ⟨_, rfl, ((((HV.out.setCell HF.out (p := ⟨w.heap.size, 0, none⟩) hlt _).setCell HF.out (p := ⟨w.heap.size, 1, none⟩) hlt _).setCell HF.out (p := ⟨w.heap.size, 2, none⟩) hlt _).setCell HF.out (p := ⟨w.heap.size, 3, none⟩) hlt _).setCell HF.out (p := ⟨w.heap.size, 4, none⟩) hlt _,
      ((((B2.setCell (p := ⟨w.heap.size, 0, none⟩) (Nat.le_refl _) _).setCell (p := ⟨w.heap.size, 1, none⟩) (Nat.le_refl _) _).setCell (p := ⟨w.heap.size, 2, none⟩) (Nat.le_refl _) _).setCell (p := ⟨w.heap.size, 3, none⟩) (Nat.le_refl _) _).setCell (p := ⟨w.heap.size, 4, none⟩) (Nat.le_refl _) _⟩
end Go.Proofs.YtobnmgnnidhfkaaFmt
/- impl.Inclusion, where the index is in the tree. -/
namespace Go.Proofs.YtobnmgnnidhfkaaFmt
open Go.ChangeShapes Go.WideShapes Go.ChangeAt Go.RowKit
set_option maxRecDepth 20000
theorem implIncl (i s : Nat) (h : i < s) (hs : s < 18446744073709551616) (w : World) (hT : Tab w) :
    Calls Tryf.prog 9 #[.int .u64 i, .int .u64 s] w (RetPlanO w (Pl.planL 0 i s).tail (sk (Pl.planB 0 i s) (Pl.planE 0 i s)) (skE (Pl.planB 0 i s) (Pl.planE 0 i s)) (0 + Pl.up 0 i s) (Pl.ephI 0 i s)) := by
  have HI := Lib.hid fun W hT => inclusion_c i s h hs W hT
  have HT := Lib.hid hT
  have hlen : (Pl.planL 0 i s).tail.length ≤ 1000 := by
    have l1 := Pl.pieces_len (Pl.fend 0 i (Pl.up 0 i s)) s hs
    have h0 : i < s / 2 ^ 0 := by simpa using h
    have hu := Pl.up_spec h0 hs
    have hp2 := Nat.two_pow_pos (0 + Pl.up 0 i s)
    have l0 := Pl.pieces_len 0 (Pl.fbeg 0 i (Pl.up 0 i s)) (by omega)
    unfold Pl.planL
    simp [Pl.sibs_length]
    omega
  generalize (Pl.planL 0 i s).tail = L at HI hlen ⊢
  generalize sk (Pl.planB 0 i s) (Pl.planE 0 i s) = b at HI ⊢
  generalize skE (Pl.planB 0 i s) (Pl.planE 0 i s) = x at HI ⊢
  generalize 0 + Pl.up 0 i s = l at HI ⊢
  generalize Pl.ephI 0 i s = ei at HI ⊢
  clear hT
  go_enter Tryf.func9, Tryf.ntmps9
  go_wp2_with fail
  refine (HI.out _ (HT.out.below ((Below.refl _ _).alloc (Nat.le_refl _) _))).mono ?_
  rintro e w1 ⟨v, rfl, hv, hb1⟩
  have HR1 : Hid (Blk w1 w.heap.size 36 #[.slice none 0 0, .int .u64 0, .int .u64 0, .int .i64 0, .int .i64 0]) := (Blk.new _ _ _).below' hb1
  have B1 : Below w.heap.size w w1 := ((Below.refl _ _).alloc (Nat.le_refl _) _).trans (hb1.mono (by simp))
  obtain ⟨A, cap, rfl, _, _⟩ := id hv
  have HV := Lib.hid hv
  clear hv hb1 HI
  go_wp2_with fail
  refine (planOf_c (.slice A L.length cap) L b x l ei _ (HV.out.below ((Below.refl _ _).alloc (Nat.le_refl _) _)) (show L.length ≤ 4294967296 by omega)).mono ?_
  rintro e w2 ⟨v, rfl, hv2, hb2, hf2⟩
  have HR2 := (HR1.out.alloc (.cells #[.slice A L.length cap, .int .i64 (b : Int), .int .i64 (x : Int), .int .u64 (l : Int), .int .u64 (ei : Int)] 62)).below' hb2
  obtain ⟨A2, c2, rfl, _, _⟩ := id hv2
  have B2 : Below w.heap.size w w2 := (B1.alloc B1.size _).trans (hb2.mono (by have := B1.size; simp; omega))
  have hlt : w.heap.size < w1.heap.size + 1 := by have := B1.size; omega
  obtain ⟨r1, r2, r3, r4, r5, r6, r7, r8, r9, r10⟩ := HR2.five
  have HV2 := Lib.hid hv2
  have HF : Hid (Fresh (w1.heap.size + 1) (.slice A2 L.length c2)) := Lib.hid (hf2.mono (by simp))
  have hfw : Hid (Fresh w.heap.size (.slice A2 L.length c2)) := Lib.hid (HF.out.mono (by omega))
  clear hv2 hf2 hb2 HR1 HV
  go_wp2_with fail
  exact bodyPost_ret (v := .tuple #[.agg #[.slice A2 L.length c2, .int .u64 (l : Int), .int .u64 (ei : Int), .int .i64 (b : Int), .int .i64 (x : Int)], .bool true]) (by simp [results, Tryf.results9, go_sem, r1, r2, r3, r4, r5]) rfl
    ⟨_, rfl, ((((HV2.out.setCell HF.out (p := ⟨w.heap.size, 0, none⟩) hlt _).setCell HF.out (p := ⟨w.heap.size, 1, none⟩) hlt _).setCell HF.out (p := ⟨w.heap.size, 2, none⟩) hlt _).setCell HF.out (p := ⟨w.heap.size, 3, none⟩) hlt _).setCell HF.out (p := ⟨w.heap.size, 4, none⟩) hlt _,
      ((((B2.setCell (p := ⟨w.heap.size, 0, none⟩) (Nat.le_refl _) _).setCell (p := ⟨w.heap.size, 1, none⟩) (Nat.le_refl _) _).setCell (p := ⟨w.heap.size, 2, none⟩) (Nat.le_refl _) _).setCell (p := ⟨w.heap.size, 3, none⟩) (Nat.le_refl _) _).setCell (p := ⟨w.heap.size, 4, none⟩) (Nat.le_refl _) _⟩
end Go.Proofs.YtobnmgnnidhfkaaFmt
/- proof.Consistency and impl.Consistency, where the first size is not 0 and less than the second. -/
namespace Go.Proofs.YtobnmgnnidhfkaaFmt
open Go.ChangeShapes Go.WideShapes Go.ChangeAt Go.RowKit
set_option maxRecDepth 20000
namespace Pl
/-- The node at the end of the first tree: its level, its index. -/
def cl (s : Nat) : Nat := Lib.ctz 64 s
def ci (s : Nat) : Nat := (s - 1) / 2 ^ cl s
def consL (s t : Nat) : List (Nat × Nat) := if ci s = 0 then (planL (cl s) (ci s) t).tail else planL (cl s) (ci s) t
def consB (s t : Nat) : Nat := if ci s = 0 then sk (planB (cl s) (ci s) t) (planE (cl s) (ci s) t) else planB (cl s) (ci s) t
def consE (s t : Nat) : Nat := if ci s = 0 then skE (planB (cl s) (ci s) t) (planE (cl s) (ci s) t) else planE (cl s) (ci s) t
end Pl
theorem cl_spec {s t : Nat} (h1 : 0 < s) (h2 : s < t) (ht : t < 18446744073709551616) : Pl.cl s < 64 ∧ Pl.ci s < t / 2 ^ Pl.cl s ∧ ∃ m, s = 2 ^ Pl.cl s * (2 * m + 1) ∧ Pl.ci s = 2 * m := by
  obtain ⟨m, hm, hk⟩ := ctz_odd s (by omega) (by omega)
  have e : Pl.ci s = 2 * m := by
    unfold Pl.ci Pl.cl
    generalize Lib.ctz 64 s = c at *
    have hp := Nat.two_pow_pos c
    rw [hm, Nat.mul_add, Nat.mul_one, Nat.div_eq_of_lt_le]
    · rw [Nat.mul_comm (2 * m)]; omega
    · rw [Nat.add_mul, Nat.mul_comm (2 * m)]; omega
  refine ⟨hk, ?_, m, hm, e⟩
  rw [e]
  unfold Pl.cl
  generalize Lib.ctz 64 s = c at *
  have : 2 * m + 1 ≤ t / 2 ^ c := (Nat.le_div_iff_mul_le (Nat.two_pow_pos c)).2 (by rw [Nat.mul_comm, ← hm]; omega)
  omega
theorem cons_len {s t : Nat} (h1 : 0 < s) (h2 : s < t) (ht : t < 18446744073709551616) : (Pl.consL s t).length ≤ 1000 := by
  have := Pl.plan_len (cl_spec h1 h2 ht).2.1 ht
  unfold Pl.consL
  split
  · simp; omega
  · exact this
set_option maxHeartbeats 1000000 in
theorem consistency_c (s t : Nat) (h1 : 0 < s) (h2 : s < t) (ht : t < 18446744073709551616) (w : World) (hT : Tab w) :
    Calls Tryf.prog 31 #[.int .u64 s, .int .u64 t] w (RetPlanT w (Pl.consL s t) (Pl.consB s t) (Pl.consE s t) (Pl.cl s + Pl.up (Pl.cl s) (Pl.ci s) t) (Pl.ephI (Pl.cl s) (Pl.ci s) t)) := by
  obtain ⟨k1, k2, _⟩ := cl_spec h1 h2 ht
  have hn := fun W hT => nodes_c (Pl.cl s) (Pl.ci s) t k2 ht W hT
  have hb := planB_le (Pl.cl s) (Pl.ci s) t k2 ht
  have htz := fun W hT => tz_c s (by omega) (by omega) W hT
  have hci : (s - 1) / 2 ^ Pl.cl s = Pl.ci s := rfl
  have hcl : Lib.ctz 64 s = Pl.cl s := rfl
  rw [hcl] at htz
  unfold Pl.consL Pl.consB Pl.consE
  obtain ⟨p, L, hp⟩ : ∃ p L, Pl.planL (Pl.cl s) (Pl.ci s) t = p :: L := ⟨_, _, rfl⟩
  rw [hp] at hn ⊢
  simp only [List.tail_cons]
  generalize Pl.planB (Pl.cl s) (Pl.ci s) t = b at hn hb ⊢
  generalize Pl.planE (Pl.cl s) (Pl.ci s) t = x at hn hb ⊢
  generalize Pl.cl s + Pl.up (Pl.cl s) (Pl.ci s) t = l at hn ⊢
  generalize Pl.ephI (Pl.cl s) (Pl.ci s) t = ei at hn ⊢
  have e1 : IntKind.u64.wrap ((s : Int) - 1) = ((s - 1 : Nat) : Int) := by rw [IntKind.wrap_u64]; omega
  have e2 : ((s - 1 : Nat) : Int) / 2 ^ Pl.cl s = (Pl.ci s : Int) := by rw [← hci]; simp
  generalize s - 1 = s1 at e1 e2
  have hci0 : Pl.ci s = Pl.ci s := rfl
  generalize Pl.ci s = ci at *
  generalize Pl.cl s = c at *
  have HN := Lib.hid hn
  have HT := Lib.hid hT
  have HZ := Lib.hid htz
  have hg : ¬ (t : Int) < (s : Int) := by omega
  have hg1 : ((s : Int) == (t : Int)) = false := by simp; omega
  have hg2 : ((s : Int) == 0) = false := by simp; omega
  have e3 : IntKind.u64.wrap (c : Int) = (c : Int) := wrapN c (by omega)
  have hmin : min c 64 = c := by omega
  clear hn hT htz hp hci hcl k2 hci0
  by_cases hc0 : ci = 0
  · simp only [if_pos hc0]
    have hz : ((ci : Int) == 0) = true := by simp [hc0]
    clear hc0
    go_enter Tryf.func31, Tryf.ntmps31
    go_wp2_with fail
    refine (HZ.out _ (HT.out.below ((Below.refl _ _).alloc (Nat.le_refl _) _))).mono ?_; rintro e w' ⟨rfl, rfl⟩
    go_wp2_with fail
    refine (HN.out _ (HT.out.below ((Below.refl _ _).alloc (Nat.le_refl _) _))).mono ?_
    rintro e w1 ⟨v, rfl, hv, hb1, hf1⟩
    have HR1 : Hid (Blk w1 w.heap.size 62 #[.slice none 0 0, .int .i64 0, .int .i64 0, .int .u64 0, .int .u64 0]) := (Blk.new _ _ _).below' hb1
    have B1 : Below w.heap.size w w1 := ((Below.refl _ _).alloc (Nat.le_refl _) _).trans (hb1.mono (by simp))
    obtain ⟨A, cap, rfl, _, _⟩ := id hv
    obtain ⟨bb1, bb2, bb3⟩ := hb
    have zr : w.heap.size < w1.heap.size := HR1.out.lt
    have hlt : w.heap.size < w.heap.size + 1 := by omega
    have HS := Lib.hid (fun W (hb : Below w1.heap.size w1 W) => skip_c (w.heap.size + 1) (.slice A (p :: L).length cap) p L b x l ei W (hv.below hb) bb1 bb2 bb3 (hf1.mono (by simp)))
    clear hv hb1 hf1 HN bb1 bb2 bb3
    go_wp2_with fail
    refine (HS.out _ ((Below.refl _ _).alloc (Nat.le_refl _) _)).mono ?_
    rintro e w2 ⟨v, rfl, hv2, hb2, hf2⟩
    have HR2 := (HR1.out.alloc _).below' hb2
    obtain ⟨A2, c2, rfl, _, _⟩ := id hv2
    have B2 : Below w.heap.size w w2 := (B1.alloc B1.size _).trans (hb2.mono (by have := B1.size; simp; omega))
    obtain ⟨r1, r2, r3, r4, r5, r6, r7, r8, r9, r10⟩ := HR2.five
    have HV := Lib.hid hv2
    have HF := Lib.hid hf2
    clear hv2 hf2 hb2 HS HR1
    go_wp2_with fail
    exact bodyPost_ret (v := .tuple #[.agg #[.slice A2 L.length c2, .int .i64 (sk b x : Int), .int .i64 (skE b x : Int), .int .u64 (l : Int), .int .u64 (ei : Int)], .nilIface]) (by simp [results, Tryf.results31, go_sem, r1, r2, r3, r4, r5]) rfl
      ⟨_, rfl, ((((HV.out.setCell HF.out (p := ⟨w.heap.size, 0, none⟩) hlt _).setCell HF.out (p := ⟨w.heap.size, 1, none⟩) hlt _).setCell HF.out (p := ⟨w.heap.size, 2, none⟩) hlt _).setCell HF.out (p := ⟨w.heap.size, 3, none⟩) hlt _).setCell HF.out (p := ⟨w.heap.size, 4, none⟩) hlt _,
        ((((B2.setCell (p := ⟨w.heap.size, 0, none⟩) (Nat.le_refl _) _).setCell (p := ⟨w.heap.size, 1, none⟩) (Nat.le_refl _) _).setCell (p := ⟨w.heap.size, 2, none⟩) (Nat.le_refl _) _).setCell (p := ⟨w.heap.size, 3, none⟩) (Nat.le_refl _) _).setCell (p := ⟨w.heap.size, 4, none⟩) (Nat.le_refl _) _⟩
  · simp only [if_neg hc0]
    have hz : ((ci : Int) == 0) = false := by simp; exact hc0
    clear hc0
    go_enter Tryf.func31, Tryf.ntmps31
    go_wp2_with fail
    refine (HZ.out _ (HT.out.below ((Below.refl _ _).alloc (Nat.le_refl _) _))).mono ?_; rintro e w' ⟨rfl, rfl⟩
    go_wp2_with fail
    refine (HN.out _ (HT.out.below ((Below.refl _ _).alloc (Nat.le_refl _) _))).mono ?_
    rintro e w1 ⟨v, rfl, hv, hb1, hf1⟩
    have HR1 : Hid (Blk w1 w.heap.size 62 #[.slice none 0 0, .int .i64 0, .int .i64 0, .int .u64 0, .int .u64 0]) := (Blk.new _ _ _).below' hb1
    have B1 : Below w.heap.size w w1 := ((Below.refl _ _).alloc (Nat.le_refl _) _).trans (hb1.mono (by simp))
    obtain ⟨A, cap, rfl, _, _⟩ := id hv
    obtain ⟨bb1, bb2, bb3⟩ := hb
    have zr : w.heap.size < w1.heap.size := HR1.out.lt
    have hlt : w.heap.size < w.heap.size + 1 := by omega
    obtain ⟨r1, r2, r3, r4, r5, r6, r7, r8, r9, r10⟩ := HR1.out.five
    have HV := Lib.hid hv
    have HF : Hid (Fresh (w.heap.size + 1) (.slice A (p :: L).length cap)) := Lib.hid (hf1.mono (by simp))
    clear hv hf1 hb1 HR1 HN
    go_wp2_with fail
    have B5 := ((((B1.setCell (p := ⟨w.heap.size, 0, none⟩) (Nat.le_refl _) (.slice A (L.length + 1) cap)).setCell (p := ⟨w.heap.size, 1, none⟩) (Nat.le_refl _) (.int .i64 (b : Int))).setCell (p := ⟨w.heap.size, 2, none⟩) (Nat.le_refl _) (.int .i64 (x : Int))).setCell (p := ⟨w.heap.size, 3, none⟩) (Nat.le_refl _) (.int .u64 (l : Int))).setCell (p := ⟨w.heap.size, 4, none⟩) (Nat.le_refl _) (.int .u64 (ei : Int))
    have V5 := ((((HV.out.setCell HF.out (p := ⟨w.heap.size, 0, none⟩) hlt (.slice A (L.length + 1) cap)).setCell HF.out (p := ⟨w.heap.size, 1, none⟩) hlt (.int .i64 (b : Int))).setCell HF.out (p := ⟨w.heap.size, 2, none⟩) hlt (.int .i64 (x : Int))).setCell HF.out (p := ⟨w.heap.size, 3, none⟩) hlt (.int .u64 (l : Int))).setCell HF.out (p := ⟨w.heap.size, 4, none⟩) hlt (.int .u64 (ei : Int))
    exact bodyPost_ret (v := .tuple #[.agg #[.slice A (L.length + 1) cap, .int .i64 (b : Int), .int .i64 (x : Int), .int .u64 (l : Int), .int .u64 (ei : Int)], .nilIface]) (by simp [results, Tryf.results31, go_sem, r1, r2, r3, r4, r5, zr]) rfl
      ⟨_, rfl, V5.below ((Below.refl _ _).alloc (Nat.le_refl _) _), B5.alloc B5.size _⟩
end Go.Proofs.YtobnmgnnidhfkaaFmt
/- impl.Consistency: between different sizes, and between equal ones. -/
namespace Go.Proofs.YtobnmgnnidhfkaaFmt
open Go.ChangeShapes Go.WideShapes Go.ChangeAt Go.RowKit
set_option maxRecDepth 100000
theorem implCons (i s : Nat) (h0 : 0 < i) (h : i < s) (hs : s < 18446744073709551616) (w : World) (hT : Tab w) :
    Calls Tryf.prog 16 #[.int .u64 i, .int .u64 s] w (RetPlanO w (Pl.consL i s) (Pl.consB i s) (Pl.consE i s) (Pl.cl i + Pl.up (Pl.cl i) (Pl.ci i) s) (Pl.ephI (Pl.cl i) (Pl.ci i) s)) := by
  have HI := Lib.hid fun W hT => consistency_c i s h0 h hs W hT
  have HT := Lib.hid hT
  have hlen := cons_len h0 h hs
  generalize Pl.consL i s = L at HI hlen ⊢
  generalize Pl.consB i s = b at HI ⊢
  generalize Pl.consE i s = x at HI ⊢
  generalize Pl.cl i + Pl.up (Pl.cl i) (Pl.ci i) s = l at HI ⊢
  generalize Pl.ephI (Pl.cl i) (Pl.ci i) s = ei at HI ⊢
  clear hT
  go_enter Tryf.func16, Tryf.ntmps16
  go_wp2_with fail
  refine (HI.out _ (HT.out.below ((Below.refl _ _).alloc (Nat.le_refl _) _))).mono ?_
  rintro e w1 ⟨v, rfl, hv, hb1⟩
  have HR1 : Hid (Blk w1 w.heap.size 36 #[.slice none 0 0, .int .u64 0, .int .u64 0, .int .i64 0, .int .i64 0]) := (Blk.new _ _ _).below' hb1
  have B1 : Below w.heap.size w w1 := ((Below.refl _ _).alloc (Nat.le_refl _) _).trans (hb1.mono (by simp))
  obtain ⟨A, cap, rfl, _, _⟩ := id hv
  have HV := Lib.hid hv
  clear hv hb1 HI
  go_wp2_with fail
  refine (planOf_c (.slice A L.length cap) L b x l ei _ (HV.out.below ((Below.refl _ _).alloc (Nat.le_refl _) _)) (show L.length ≤ 4294967296 by omega)).mono ?_
  rintro e w2 ⟨v, rfl, hv2, hb2, hf2⟩
  have HR2 := (HR1.out.alloc (.cells #[.slice A L.length cap, .int .i64 (b : Int), .int .i64 (x : Int), .int .u64 (l : Int), .int .u64 (ei : Int)] 62)).below' hb2
  obtain ⟨A2, c2, rfl, _, _⟩ := id hv2
  have B2 : Below w.heap.size w w2 := (B1.alloc B1.size _).trans (hb2.mono (by have := B1.size; simp; omega))
  have hlt : w.heap.size < w1.heap.size + 1 := by have := B1.size; omega
  obtain ⟨r1, r2, r3, r4, r5, r6, r7, r8, r9, r10⟩ := HR2.five
  have HV2 := Lib.hid hv2
  have HF : Hid (Fresh (w1.heap.size + 1) (.slice A2 L.length c2)) := Lib.hid (hf2.mono (by simp))
  have hfw : Hid (Fresh w.heap.size (.slice A2 L.length c2)) := Lib.hid (HF.out.mono (by omega))
  clear hv2 hf2 hb2 HR1 HV
  go_wp2_with fail
  exact bodyPost_ret (v := .tuple #[.agg #[.slice A2 L.length c2, .int .u64 (l : Int), .int .u64 (ei : Int), .int .i64 (b : Int), .int .i64 (x : Int)], .bool true]) (by simp [results, Tryf.results16, go_sem, r1, r2, r3, r4, r5]) rfl
    ⟨_, rfl, ((((HV2.out.setCell HF.out (p := ⟨w.heap.size, 0, none⟩) hlt _).setCell HF.out (p := ⟨w.heap.size, 1, none⟩) hlt _).setCell HF.out (p := ⟨w.heap.size, 2, none⟩) hlt _).setCell HF.out (p := ⟨w.heap.size, 3, none⟩) hlt _).setCell HF.out (p := ⟨w.heap.size, 4, none⟩) hlt _,
      ((((B2.setCell (p := ⟨w.heap.size, 0, none⟩) (Nat.le_refl _) _).setCell (p := ⟨w.heap.size, 1, none⟩) (Nat.le_refl _) _).setCell (p := ⟨w.heap.size, 2, none⟩) (Nat.le_refl _) _).setCell (p := ⟨w.heap.size, 3, none⟩) (Nat.le_refl _) _).setCell (p := ⟨w.heap.size, 4, none⟩) (Nat.le_refl _) _⟩
theorem implSame (n : Nat) (w : World) : Calls Tryf.prog 16 #[.int .u64 n, .int .u64 n] w fun r w' => ∃ A cap, r = .returned (.tuple #[.agg #[.slice A 0 cap, .int .u64 0, .int .u64 0, .int .i64 0, .int .i64 0], .bool true]) ∧ NodesR w' (.slice A 0 cap) [] ∧ Below w.heap.size w w' := by
  go_enter Tryf.func16, Tryf.ntmps16
  go_wp2_with fail
  refine (consSame_c n _).mono ?_; rintro r w1 ⟨v, rfl, hv, hb1⟩
  have hv0 := hv
  obtain ⟨A, cap, rfl, _, _⟩ := hv0
  go_wp2_with fail
  have hv1 := hv.below ((Below.refl _ _).alloc (Nat.le_refl w1.heap.size) (.cells #[.slice A 0 cap, .int .i64 0, .int .i64 0, .int .u64 0, .int .u64 0] 62))
  obtain ⟨hc1, hf1, hz1⟩ := bcell hb1
  simp only [World.size_alloc] at hc1 hf1 hz1
  have z1 : w.heap.size < w1.heap.size := by omega
  have B1 : Below w.heap.size w w1 := ((Below.refl _ _).alloc (Nat.le_refl _) _).trans (hb1.mono (by simp))
  clear hb1 hv
  refine (planOf_c (.slice A 0 cap) [] 0 0 0 0 _ hv1 (by simp [Room])).mono ?_; rintro r w2 ⟨v, rfl, hv2, hb2, _⟩
  obtain ⟨hc2, hf2, hz2⟩ := bcell hb2
  simp only [World.size_alloc] at hc2 hf2 hz2
  have z2 : w.heap.size < w2.heap.size := by omega
  have z3 : w.heap.size < w1.heap.size + 1 := by omega
  have B2 : Below w.heap.size w w2 := (B1.alloc B1.size _).trans (hb2.mono (by simp; omega))
  clear hb2 hv1 B1
  obtain ⟨A2, cap2, rfl, _, _⟩ := hv2
  go_wp2_with fail
  have B5 := ((((B2.setCell (p := ⟨w.heap.size, 0, none⟩) (by simp) (.slice A2 0 cap2)).setCell (p := ⟨w.heap.size, 1, none⟩) (by simp) (.int .u64 0)).setCell (p := ⟨w.heap.size, 2, none⟩) (by simp) (.int .u64 0)).setCell (p := ⟨w.heap.size, 3, none⟩) (by simp) (.int .i64 0)).setCell (p := ⟨w.heap.size, 4, none⟩) (by simp) (.int .i64 0)
  have y1 : ∀ o, w2.cell? ⟨w.heap.size, o, none⟩ = (w.alloc (.cells #[.slice none 0 0, .int .u64 0, .int .u64 0, .int .i64 0, .int .i64 0] 36)).cell? ⟨w.heap.size, o, none⟩ := fun o => by
    rw [hc2 _ _ z3, World.cell?_alloc_past _ _ _ z1, hc1 _ _ (by omega)]
  have k3 : w2.cell? ⟨w.heap.size, 0, none⟩ = some (.slice none 0 0) := by rw [y1]; simp
  have k4 : w2.cell? ⟨w.heap.size, 1, none⟩ = some (.int .u64 0) := by rw [y1]; simp
  have k5 : w2.cell? ⟨w.heap.size, 2, none⟩ = some (.int .u64 0) := by rw [y1]; simp
  have k6 : w2.cell? ⟨w.heap.size, 3, none⟩ = some (.int .i64 0) := by rw [y1]; simp
  have k7 : w2.cell? ⟨w.heap.size, 4, none⟩ = some (.int .i64 0) := by rw [y1]; simp
  exact bodyPost_ret (v := .tuple #[.agg #[.slice A2 0 cap2, .int .u64 0, .int .u64 0, .int .i64 0, .int .i64 0], .bool true]) (by simp [results, Tryf.results16, go_sem, k3, k4, k5, k6, k7]) rfl ⟨_, _, rfl, ⟨_, _, rfl, Nat.zero_le _, fun h => absurd h (by decide)⟩, B5⟩
end Go.Proofs.YtobnmgnnidhfkaaFmt
