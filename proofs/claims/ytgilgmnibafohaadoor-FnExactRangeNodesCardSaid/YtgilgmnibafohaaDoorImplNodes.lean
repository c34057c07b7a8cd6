/- impl.RangeNodes: the nodes of a compact range, behind some nodes. -/
import Derived.Test.YtgilgmnibafohaaDoorNodes
import Derived.Test.YtgilgmnibafohaaDoorNodesOf
namespace Go.Proofs.YtgilgmnibafohaaDoor
open Go.ChangeShapes Go.WideShapes Go.ChangeAt Go.RowKit
theorem Tab.lt {w : World} (h : Tab w) : 0 < w.heap.size := World.block_lt_of_cell? w _ (h 0 (by omega))
theorem room_le {n m : Nat} (h : Room n) (hm : m ≤ n) : Room m := Nat.le_trans hm h
set_option maxHeartbeats 1000000 in
theorem implNodes (b e : Nat) (hle : b ≤ e) (he : e < 18446744073709551616) (v : Value) (F : List (Nat × Nat)) (w : World) (hT : Tab w) (hv : NodesR w v F) (hroom : Room (F.length + 128)) :
    Calls Tryd.prog 6 #[.int .u64 b, .int .u64 e, v] w (RetNodes w (F ++ Pl.pieces b e)) := by
  obtain ⟨i0, hi, hz0, hz1, hz2⟩ := info_parts idInfo
  obtain ⟨A, cap, rfl, hcap, hat⟩ := hv
  have hrm : Room F.length := room_le hroom (by omega)
  have hr32 : F.length ≤ 4294967296 := hrm
  have HR : Hid (Room (F.length + 128)) := hroom
  have HT : Hid (Tab w) := hT
  have HE : Hid (b ≤ e ∧ e < 18446744073709551616) := ⟨hle, he⟩
  clear hroom hT hle he
  go_enter Tryd.func6, Tryd.ntmps6
  go_wp2_with fail
  go_loopw [7, 13] (fun ov kv wr => ∃ k : Nat, k ≤ F.length ∧ kv = .int .i64 k ∧ wr.ownsRow w.heap.size 36 2 ov k (nodeCells (F.take k)) ∧ Below w.heap.size w wr) (fun _ kv _ => F.length - (intOf kv).toNat)
  case atStart => exact ⟨0, Nat.zero_le _, rfl, World.ownsRow_lit _ _ 0 (Nat.le_refl _) (by unfold maxLen; omega) rfl, (Below.refl _ _).alloc (Nat.le_refl _) _⟩
  case round =>
    obtain ⟨k, hk, rfl, hown, hB⟩ := hrel
    by_cases hkl : k < F.length
    · obtain ⟨g, o, rfl, hc⟩ := hat (by omega)
      obtain ⟨c1, c2⟩ := hc k hkl
      have c1 := (hB.cell (World.block_lt_of_cell? w _ c1)).trans c1
      have c2 := (hB.cell (World.block_lt_of_cell? w _ c2)).trans c2
      have HS := take_snoc F k hkl
      have HC : Hid (nodeCells (F.take (k + 1)) = nodeCells (F.take k) ++ [.int .u64 F[k].1, .int .u64 F[k].2]) := by rw [HS]; exact nodeCells_snoc _ _ _
      clear HS hc hat
      generalize F[k].1 = lv at c1 HC
      generalize F[k].2 = iv at c2 HC
      have hk1 : (k : Int) < (F.length : Int) := by omega
      go_wp2_with (at_builtin; refine wpList_append_own _ rfl (.tmp 17) (.tmp 23) 35 rfl w.heap.size 36 i0 (.agg #[.int .u64 0, .int .u64 0]) 2 16 Tryd.underlying35 hi hz0 hz1 hz2 rfl (by decide) _ _ _ rfl ((hown.alloc _).alloc _) ⟨wr.heap.size + 1, 0, none⟩ 1 1 [.int .u64 lv, .int .u64 iv] rfl rfl (by have := World.news_of_block (heap_alloc_new (wr.alloc (.cells #[.int .u64 lv, .int .u64 iv] 31)) (.cells #[.int .u64 lv, .int .u64 iv] 36)); simpa using this) (by simp [Value.oneCell']) (roomN1 hrm hk) (roomN2 hrm hk) (by have := hB.size; simp; omega) ?_; intro v' w1 hown' hgrow _)
      go_roundw
      case rel => exact ⟨k + 1, by omega, by go_num, by rw [HC.out]; exact hown', ((hB.alloc hB.size _).alloc (by simp; have := hB.size; omega) _).grown hgrow (by have := hB.size; simp; omega) (fun k hk => (hown.lt k hk).1)⟩
      case measure => simp [intOf] <;> omega
    · have hk1 : ¬ (k : Int) < (F.length : Int) := by omega
      obtain rfl : k = F.length := by omega
      rw [List.take_length] at hown
      have hne : u7.ownBlock ≠ some 0 := fun hc => by
        have h1 := (hown.lt _ hc).1
        have h2 := HT.out.lt
        omega
      have H1 := rangeNodes_c b e HE.out.1 HE.out.2 w.heap.size u7 F.length (nodeCells F) wr (HT.out.below hB) hown hB.size hne hrm
      have hpl := Pl.pieces_len b e HE.out.2
      have H1' : Hid (Calls Tryd.prog 11 #[.int .u64 b, .int .u64 e, u7] wr (RetGrew wr w.heap.size 36 u7 (F ++ Pl.pieces b e).length (nodeCells (F ++ Pl.pieces b e)))) := by
        rw [List.length_append, nodeCells, List.flatMap_append]; exact H1
      have hroom : Room (F ++ Pl.pieces b e).length := by
        have := HR.out
        rw [List.length_append]; unfold Room at *; omega
      clear H1 HE HR HT hpl
      obtain ⟨G, hG⟩ : ∃ G, F ++ Pl.pieces b e = G := ⟨_, rfl⟩
      rw [hG] at H1' hroom
      have HG : Hid (F ++ Pl.pieces b e = G) := hG
      clear hG
      go_wp2_with fail
      refine H1'.out.mono ?_; rintro e w1 ⟨v', rfl, hG⟩
      have hN := NodesR.of_own hG.own
      have hB1 : Below w.heap.size w w1 := hB.grown hG.grown hB.size (fun k hk => (hown.lt k hk).1)
      have H2 := nodesOf_c v' G w1 hN hroom
      go_wp2_with fail
      refine H2.mono ?_; rintro e w2 ⟨v2, rfl, hown2, hb2⟩
      go_wp2_with fail
      go_ret
      exact ⟨_, rfl, by rw [HG.out]; exact hown2.mono hB1.size, hB1.trans (hb2.mono hB1.size)⟩
end Go.Proofs.YtgilgmnibafohaaDoor
