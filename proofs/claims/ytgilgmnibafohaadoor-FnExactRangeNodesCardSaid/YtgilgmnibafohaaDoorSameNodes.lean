/- sameNodes of two equal lists; a list of nodes that is an argument. -/
import Derived.Test.YtgilgmnibafohaaDoorNodesOf
import Derived.Test.YtgilgmnibafohaaDoorOpen
import Derived.Test.YtgilgmnibafohaaDoorNode
import Derived.Deep.SlicePairs
import Derived.Deep.QuietTactic
import Derived.BigQuiet
namespace Go.Proofs.YtgilgmnibafohaaDoor
open Go.ChangeShapes Go.WideShapes Go.ChangeAt Go.RowKit Go.Deep

theorem slot_none {w : World} {g o : Nat} {s : Option Nat} {v : Value} (h : w.cell? ((⟨g, o, s⟩ : Addr).add 0) = some v) : s = none := by
  simpa [Addr.add] using World.cell?_spot h
theorem add_plain' (g o k : Nat) : (⟨g, o, none⟩ : Addr).add k = ⟨g, o + k, none⟩ := by unfold Addr.add; split <;> simp_all
theorem openNodes {H : Type} {enc : TypeId × Value → H} {w : World} {base : Nat} {b0 : Nat} {r : Reach} {spare : Nat → Bool} {held : Bool} {v : Value} {d : DataW H} {p : List MemPlace}
    (hv : Value.okWide Tryd.prog w r b0 23 v) (h : DataW.Trod enc Tryd.prog w base spare held 23 v d p) :
    ∃ L : List (Nat × Nat), NodesR w v L := by
  obtain ⟨a0, l0, c0, rfl⟩ := okWide_slice Tryd.underlying23 hv
  obtain ⟨fuel, hf⟩ := h
  rcases open_slice_pairs Tryd.underlying23 Tryd.underlying31 cellsNode (by rfl) (by rfl) (by kernel_rfl) (by kernel_rfl) hf with ⟨hcs, _⟩ | ⟨a, len, cap, m, n, V0, V1, D0, D1, P0, P1, hcs, hb, hl, hm, hmm, hx, hat⟩
  · simp [Value.cells] at hcs
    obtain ⟨rfl, rfl, rfl⟩ := hcs
    exact ⟨[], none, 0, rfl, Nat.le_refl _, fun h => absurd h (by decide)⟩
  · simp [Value.cells] at hcs
    obtain ⟨rfl, rfl, rfl⟩ := hcs
    have hlm : l0 ≤ m := by rw [hmm]; split <;> omega
    have each : ∀ i, i < l0 → ∃ q : Nat × Nat, w.cell? (a.add (i * 2)) = some (.int .u64 q.1) ∧ w.cell? (a.add (i * 2 + 1)) = some (.int .u64 q.2) := by
      intro i hi
      obtain ⟨x0, x1, y0, y1⟩ := hat i (by omega)
      obtain ⟨n0, e0, _, wa⟩ := DataW.trod_int Tryd.underlying29 y0
      obtain ⟨n1, e1, _, wb⟩ := DataW.trod_int Tryd.underlying22 y1
      obtain ⟨z0, hz0⟩ := Int.eq_ofNat_of_zero_le (bound_u64 wa).1
      obtain ⟨z1, hz1⟩ := Int.eq_ofNat_of_zero_le (bound_u64 wb).1
      simp at e0 e1
      exact ⟨(z0, z1), by rw [x0, e0, hz0], by rw [x1, e1, hz1]⟩
    obtain ⟨q, hq⟩ := choose_lt each
    have hlen : ((List.range l0).map q).length = l0 := by simp
    refine ⟨(List.range l0).map q, some a, c0, by rw [hlen], by rw [hlen]; exact hl, fun h0 => ?_⟩
    obtain ⟨g, o, s⟩ := a
    rw [hlen] at h0
    have h1 := (hq 0 h0).1
    rw [Nat.zero_mul] at h1
    obtain rfl := slot_none h1
    refine ⟨g, o, rfl, fun k hk => ?_⟩
    rw [hlen] at hk
    have h2 := hq k hk
    rw [add_plain', add_plain', ← Nat.add_assoc] at h2
    simpa using h2

/-- The cells of a list, one by one: what an append of it asks. -/
theorem NodesR.news {w : World} {v : Value} {L : List (Nat × Nat)} (h : NodesR w v L) : ∃ A cap, v = .slice A L.length cap ∧ (0 < L.length → ∃ ad, A = some ad ∧ ∀ j u, (nodeCells L)[j]? = some u → w.cell? (ad.add j) = some u) := by
  obtain ⟨A, cap, rfl, _, h⟩ := h
  refine ⟨A, cap, rfl, fun h0 => ?_⟩
  obtain ⟨g, o, rfl, hc⟩ := h h0
  refine ⟨_, rfl, fun j u hu => ?_⟩
  have hj : j < L.length * 2 := by rw [← nodeCells_length]; exact (List.getElem?_eq_some_iff.1 hu).1
  rw [add_plain']
  obtain ⟨c1, c2⟩ := hc (j / 2) (by omega)
  obtain ⟨n1, n2⟩ := nodeCells_at L (j / 2) (by omega)
  rcases Nat.mod_two_eq_zero_or_one j with hm | hm
  · rw [show j = 2 * (j / 2) by omega] at hu ⊢
    rw [n1] at hu; injection hu with hu
    rw [← hu, Nat.mul_comm]; exact c1
  · rw [show j = 2 * (j / 2) + 1 by omega] at hu ⊢
    rw [n2] at hu; injection hu with hu
    rw [← hu, Nat.mul_comm, ← Nat.add_assoc]; exact c2
theorem nodeCells_one (L : List (Nat × Nat)) : ∀ u ∈ nodeCells L, u.oneCell' = true := by
  intro u hu
  simp only [nodeCells, List.mem_flatMap] at hu
  obtain ⟨p, _, hp⟩ := hu
  simp at hp
  rcases hp with rfl | rfl <;> rfl

set_option maxHeartbeats 1000000 in
theorem sameNodes_c (v v2 : Value) (L : List (Nat × Nat)) (w : World) (hv : NodesR w v L) (hv2 : NodesR w v2 L) (hroom : Room L.length) : Calls Tryd.prog 5 #[v, v2] w fun e w' => e = .returned (.bool true) ∧ Below w.heap.size w w' := by
  obtain ⟨A, cap, rfl, hcap, hat⟩ := hv
  obtain ⟨A2, cap2, rfl, hcap2, hat2⟩ := hv2
  have hr32 : L.length ≤ 4294967296 := hroom
  go_enter Tryd.func5, Tryd.ntmps5
  go_wp2_with fail
  go_loopw [13] (fun kv wr => ∃ k : Nat, k ≤ L.length ∧ kv = .int .i64 k ∧ Below w.heap.size w wr) (fun kv _ => L.length - (intOf kv).toNat)
  case atStart => exact ⟨0, Nat.zero_le _, rfl, Below.refl _ _⟩
  case round =>
    obtain ⟨k, hk, rfl, hB⟩ := hrel
    by_cases hkl : k < L.length
    · obtain ⟨g, o, rfl, hc⟩ := hat (by omega)
      obtain ⟨g2, o2, rfl, hc2⟩ := hat2 (by omega)
      obtain ⟨c1, c2⟩ := hc k hkl
      obtain ⟨c3, c4⟩ := hc2 k hkl
      have c1 := (hB.cell (World.block_lt_of_cell? w _ c1)).trans c1
      have c2 := (hB.cell (World.block_lt_of_cell? w _ c2)).trans c2
      have c3 := (hB.cell (World.block_lt_of_cell? w _ c3)).trans c3
      have c4 := (hB.cell (World.block_lt_of_cell? w _ c4)).trans c4
      clear hc hat hc2 hat2
      generalize L[k].1 = lv at c1 c3
      generalize L[k].2 = iv at c2 c4
      have hk1 : (k : Int) < (L.length : Int) := by omega
      have hk0 : (0 : Int) ≤ (k : Int) := by omega
      go_wp2_with fail
      go_quiet (fail)
      go_wp2
      go_roundw
      case rel => exact ⟨k + 1, by omega, by go_num, below_drewN hB _⟩
      case measure => simp [intOf] <;> omega
    · have hk1 : ¬ (k : Int) < (L.length : Int) := by omega
      go_wp2_with fail
      go_ret
      exact ⟨rfl, hB⟩
end Go.Proofs.YtgilgmnibafohaaDoor
