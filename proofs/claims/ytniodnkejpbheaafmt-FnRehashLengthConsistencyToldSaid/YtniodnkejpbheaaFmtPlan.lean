/- What impl.planOf makes of a plan. -/
import Derived.Test.YtniodnkejpbheaaFmtNodesOf
import Derived.Test.YtniodnkejpbheaaFmtWorks
import Derived.Outline
import Derived.Deep.RegionWith
import Derived.Below
import Derived.Test.YtniodnkejpbheaaFmtNode
namespace Go.Proofs.YtniodnkejpbheaaFmt
open Go.ChangeShapes Go.WideShapes Go.ChangeAt Go.RowKit
set_option maxRecDepth 20000
/-- A nodes' plan: its list, the part's begin and end, the node of the part. -/
def planV (v : Value) (b e l i : Int) : Value := .agg #[v, .int .i64 b, .int .i64 e, .int .u64 l, .int .u64 i]
theorem ephem_c (v : Value) (A : Option Addr) (n cap : Nat) (hv : v = .slice A n cap) (b e l i : Int) (w : World) : Calls Tryf.prog 50 #[.agg #[v, .int .i64 b, .int .i64 e, .int .u64 l, .int .u64 i]] w fun r w' => r = .returned (.tuple #[.agg #[.int .u64 l, .int .u64 i], .int .i64 b, .int .i64 e]) ∧ Below w.heap.size w w' := by
  subst hv
  go_enter Tryf.func50, Tryf.ntmps50
  go_wp2_with fail
  go_region
  all_goals go_wp2
  refine bodyPost_ret (v := .tuple #[.agg #[.int .u64 l, .int .u64 i], .int .i64 b, .int .i64 e]) (by simp [results, Tryf.results50, go_sem]) rfl ?_
  exact ⟨rfl, (((Below.refl _ _).alloc (Nat.le_refl _) _).alloc (by simp) _).drew⟩
def RetPlan (w : World) (L : List (Nat × Nat)) (b e l i : Int) (r : Ending) (w' : World) : Prop := ∃ v, r = .returned (.agg #[v, .int .u64 l, .int .u64 i, .int .i64 b, .int .i64 e]) ∧ NodesR w' v L ∧ Below w.heap.size w w' ∧ Fresh w.heap.size v
set_option maxHeartbeats 4000000 in
theorem planOf_c (v : Value) (L : List (Nat × Nat)) (b e l i : Int) (w : World) (hv : NodesR w v L) (hroom : Room L.length) : Calls Tryf.prog 34 #[.agg #[v, .int .i64 b, .int .i64 e, .int .u64 l, .int .u64 i]] w (RetPlan w L b e l i) := by
  have HV : Hid (NodesR w v L ∧ Room L.length) := ⟨hv, hroom⟩
  obtain ⟨A, cap, rfl, _, _⟩ := hv
  clear hroom
  go_enter Tryf.func34, Tryf.ntmps34
  go_wp2_with (go_at_call 50; refine (ephem_c _ A L.length cap rfl b e l i _).mono ?_; rintro e' w' ⟨rfl, hb⟩)
  obtain ⟨hc1, hf1, hz1⟩ := bcell hb
  simp only [World.size_alloc] at hc1 hf1 hz1
  have z1 : w.heap.size < w'.heap.size := by omega
  have z2 : w.heap.size + 1 < w'.heap.size := by omega
  have B1 : Below w.heap.size w w' := (((Below.refl _ _).alloc (Nat.le_refl _) _).alloc (by simp) _).trans (hb.mono (by simp; omega))
  clear hb
  have hN : NodesR (w'.alloc (.cells #[.int .u64 l, .int .u64 i] 55)).drew (.slice A L.length cap) L := HV.out.1.below (B1.alloc B1.size _).drew
  have HKey : Hid (∀ {w2 : World}, Below (w'.alloc (.cells #[.int .u64 l, .int .u64 i] 55)).drew.heap.size (w'.alloc (.cells #[.int .u64 l, .int .u64 i] 55)).drew w2 →
      w2.cell? ⟨w'.heap.size, 0, none⟩ = some (.int .u64 l) ∧ w2.cell? ⟨w'.heap.size, 1, none⟩ = some (.int .u64 i) ∧ w2.cell? ⟨w.heap.size + 1, 0, none⟩ = some (.slice none 0 0) ∧ w2.cell? ⟨w.heap.size + 1, 1, none⟩ = some (.int .u64 0) ∧
      w2.cell? ⟨w.heap.size + 1, 2, none⟩ = some (.int .u64 0) ∧ w2.cell? ⟨w.heap.size + 1, 3, none⟩ = some (.int .i64 0) ∧ w2.cell? ⟨w.heap.size + 1, 4, none⟩ = some (.int .i64 0) ∧
      w2.frozen? ⟨w.heap.size + 1, 0, none⟩ = false ∧ w2.frozen? ⟨w.heap.size + 1, 1, none⟩ = false ∧ w2.frozen? ⟨w.heap.size + 1, 2, none⟩ = false ∧ w2.frozen? ⟨w.heap.size + 1, 3, none⟩ = false ∧ w2.frozen? ⟨w.heap.size + 1, 4, none⟩ = false ∧
      w'.heap.size + 1 ≤ w2.heap.size) := fun {w2} hb => by
    obtain ⟨x1, x2, x3⟩ := bcell hb
    have e : (w'.alloc (.cells #[.int .u64 l, .int .u64 i] 55)).drew.heap.size = w'.heap.size + 1 := by show (w'.alloc _).heap.size = _; simp
    rw [e] at x1 x2 x3
    have y1 : ∀ o, w2.cell? ⟨w.heap.size + 1, o, none⟩ = w'.cell? ⟨w.heap.size + 1, o, none⟩ := fun o => by
      rw [x1 _ _ (by omega)]; exact World.cell?_alloc_past _ _ _ (by omega)
    have y2 : ∀ o, w2.frozen? ⟨w.heap.size + 1, o, none⟩ = w'.frozen? ⟨w.heap.size + 1, o, none⟩ := fun o => by
      rw [x2 _ _ (by omega)]; exact World.frozen?_alloc_past _ _ _ (by omega)
    refine ⟨?_, ?_, ?_, ?_, ?_, ?_, ?_, ?_, ?_, ?_, ?_, ?_, x3⟩
    · rw [x1 _ _ (by omega)]; show (w'.alloc _).cell? _ = _; simp
    · rw [x1 _ _ (by omega)]; show (w'.alloc _).cell? _ = _; simp
    all_goals first | (rw [y1, hc1 _ _ (by omega)]; simp; done) | (rw [y2, hf1 _ _ (by omega)]; simp; done)
  go_region_with (go_at_call 51; refine (nodesOf_c _ L _ hN HV.out.2).mono ?_; rintro e' w2 ⟨v2, rfl, hown2, hb2⟩; obtain ⟨A2, cap2, rfl, _⟩ := own_slice hown2; obtain ⟨k1, k2, k3, k4, k5, k6, k7, k8, k9, k10, k11, k12, hz2⟩ := HKey.out hb2)
  all_goals
    have hlt : w.heap.size + 1 < (w'.alloc (.cells #[.int .u64 l, .int .u64 i] 55)).drew.heap.size := by show _ < (w'.alloc _).heap.size; simp; omega
    have o5 := ownsRow_setCell_below (ownsRow_setCell_below (ownsRow_setCell_below (ownsRow_setCell_below (ownsRow_setCell_below hown2 (a := ⟨w.heap.size + 1, 0, none⟩) hlt (.slice A2 L.length cap2)) (a := ⟨w.heap.size + 1, 1, none⟩) hlt (.int .u64 l)) (a := ⟨w.heap.size + 1, 2, none⟩) hlt (.int .u64 i)) (a := ⟨w.heap.size + 1, 3, none⟩) hlt (.int .i64 b)) (a := ⟨w.heap.size + 1, 4, none⟩) hlt (.int .i64 e)
    have B2 : Below w.heap.size w w2 := (B1.alloc B1.size _).drew.trans (hb2.mono (by omega))
    have B5 := ((((B2.setCell (p := ⟨w.heap.size + 1, 0, none⟩) (by simp) (.slice A2 L.length cap2)).setCell (p := ⟨w.heap.size + 1, 1, none⟩) (by simp) (.int .u64 l)).setCell (p := ⟨w.heap.size + 1, 2, none⟩) (by simp) (.int .u64 i)).setCell (p := ⟨w.heap.size + 1, 3, none⟩) (by simp) (.int .i64 b)).setCell (p := ⟨w.heap.size + 1, 4, none⟩) (by simp) (.int .i64 e)
    have n5 := NodesR.of_own o5
    have fr5 : Fresh w.heap.size (.slice A2 L.length cap2) := (own_fresh hown2).mono (by omega)
    clear hc1 hf1 hN HKey hb2 hown2 o5 B1 B2 hlt HV
    go_wp2
    exact bodyPost_ret (v := .agg #[.slice A2 L.length cap2, .int .u64 l, .int .u64 i, .int .i64 b, .int .i64 e]) (by simp [results, Tryf.results34, go_sem, k3, k4, k5, k6, k7]) rfl ⟨_, rfl, n5, B5, fr5⟩
end Go.Proofs.YtniodnkejpbheaaFmt
