/- What spec.Pieces returns: the nodes of the fewest perfect trees, in new memory. -/
import Derived.Test.YtobnmgnnidhfkaaFmtBits
import Derived.Deep.AppendLies
import Derived.WalkKit
import Derived.Outline
import Derived.Deep.Onto
namespace Go.Proofs.YtobnmgnnidhfkaaFmt
open Go.ChangeShapes Go.WideShapes Go.ChangeAt Go.RowKit

theorem nodeInfo : (Tryf.prog.info? 34).map (fun i => (i.zero, i.size, i.bytes)) = some (some (.agg #[.int .u64 0, .int .u64 0]), 2, 16) := by kernel_rfl
/-- The cells of nodes. -/
def nodeCells (L : List (Nat × Nat)) : List Value := L.flatMap fun p => [.int .u64 p.1, .int .u64 p.2]
theorem nodeCells_snoc (L : List (Nat × Nat)) (l i : Nat) : nodeCells (L ++ [(l, i)]) = nodeCells L ++ [.int .u64 l, .int .u64 i] := by simp [nodeCells]
def RetNodes (w : World) (L : List (Nat × Nat)) (e : Ending) (w' : World) : Prop :=
  ∃ v, e = .returned v ∧ w'.ownsRow w.heap.size 34 2 v L.length (nodeCells L) ∧ Below w.heap.size w w'

theorem lenOk1 {n : Nat} (h : n ≤ 128) : n + 1 ≤ maxLen := by unfold maxLen; omega
theorem lenOk2 {n : Nat} (h : n ≤ 128) : (n + 1) * 16 ≤ 140737488355328 := by omega
theorem shl2_wrap (l : Nat) (h : l < 63) : IntKind.u64.wrap (2 * 2 ^ l) = ((2 ^ (l + 1) : Nat) : Int) := by
  have h1 := Nat.pow_le_pow_right (n := 2) (by omega) (show l + 1 ≤ 63 by omega)
  have e : ((2 ^ (l + 1) : Nat) : Int) = 2 * (2 : Int) ^ l := by rw [Nat.pow_succ, Nat.mul_comm]; simp
  rw [← e, IntKind.wrap_u64]
  generalize 2 ^ (l + 1) = q at *
  omega
theorem own_slice {w : World} {base : Nat} {e : TypeId} {size : Nat} {v : Value} {n : Nat} {xs : List Value} (h : w.ownsRow base e size v n xs) : ∃ A c, v = .slice A n c ∧ n ≤ c := by
  rcases h.2 with ⟨rfl, rfl⟩ | ⟨g, cap, cur, rfl, _, _, hc, _⟩
  · exact ⟨none, 0, rfl, Nat.le_refl _⟩
  · exact ⟨_, cap, rfl, hc⟩
theorem own_cases {w : World} {base : Nat} {e : TypeId} {size : Nat} {v : Value} {n : Nat} {xs : List Value} (h : w.ownsRow base e size v n xs) : (n = 0 ∧ ∃ A c, v = .slice A n c) ∨ (0 < n ∧ ∃ g c, v = .slice (some ⟨g, 0, none⟩) n c ∧ n ≤ c) := by
  rcases h.2 with ⟨rfl, rfl⟩ | ⟨g, cap, cur, rfl, _, _, hc, _⟩
  · exact .inl ⟨rfl, none, 0, rfl⟩
  · rcases Nat.eq_zero_or_pos n with h0 | h0
    · exact .inl ⟨h0, _, cap, rfl⟩
    · exact .inr ⟨h0, g, cap, rfl, hc⟩
theorem own_below {w w' : World} {base : Nat} {e : TypeId} {size : Nat} {v : Value} {n : Nat} {xs : List Value} (h : w.ownsRow base e size v n xs) (hb : Below w.heap.size w w') : w'.ownsRow base e size v n xs :=
  h.kept (row := none) ⟨hb.os, hb.tape, hb.output, hb.size, fun k hk _ => hb.block k hk⟩ (by cases hv : v.ownBlock <;> simp)
theorem nodeCells_at : ∀ (L : List (Nat × Nat)) (k : Nat) (h : k < L.length), (nodeCells L)[2 * k]? = some (.int .u64 L[k].1) ∧ (nodeCells L)[2 * k + 1]? = some (.int .u64 L[k].2)
  | p :: L, 0, _ => by simp [nodeCells]
  | p :: L, k + 1, h => by
    have := nodeCells_at L k (by simpa using h)
    simp only [nodeCells, List.flatMap_cons, List.cons_append, List.nil_append] at *
    rw [show 2 * (k + 1) = 2 * k + 1 + 1 by omega, show 2 * k + 1 + 1 + 1 = (2 * k + 1) + 1 + 1 by omega]
    simpa using this
theorem nodeCells_length (L : List (Nat × Nat)) : (nodeCells L).length = L.length * 2 := by
  induction L with
  | nil => rfl
  | cons p L ih => simp only [nodeCells, List.flatMap_cons, List.length_append, List.length_cons, List.length_nil] at *; omega
end Go.Proofs.YtobnmgnnidhfkaaFmt
/- Lists of nodes as they lie in memory; what impl.nodesOf makes. -/
namespace Go.Proofs.YtobnmgnnidhfkaaFmt
open Go.ChangeShapes Go.WideShapes Go.ChangeAt Go.RowKit

/-- A slice in which these nodes lie. -/
def NodesR (w : World) (v : Value) (L : List (Nat × Nat)) : Prop :=
  ∃ A cap, v = .slice A L.length cap ∧ L.length ≤ cap ∧ (0 < L.length → ∃ g o, A = some ⟨g, o, none⟩ ∧ ∀ k (h : k < L.length), w.cell? ⟨g, o + k * 2, none⟩ = some (.int .u64 L[k].1) ∧ w.cell? ⟨g, o + k * 2 + 1, none⟩ = some (.int .u64 L[k].2))
theorem NodesR.below {w w' : World} {v : Value} {L : List (Nat × Nat)} (h : NodesR w v L) (hb : Below w.heap.size w w') : NodesR w' v L := by
  obtain ⟨A, cap, rfl, hc, h⟩ := h
  refine ⟨A, cap, rfl, hc, fun hl => ?_⟩
  obtain ⟨g, o, rfl, h'⟩ := h hl
  clear h; have h := h'
  exact ⟨g, o, rfl, fun k hk => ⟨(hb.cell (World.block_lt_of_cell? w _ (h k hk).1)).trans (h k hk).1, (hb.cell (World.block_lt_of_cell? w _ (h k hk).2)).trans (h k hk).2⟩⟩
theorem NodesR.of_own {w : World} {base : Nat} {t : TypeId} {v : Value} {L : List (Nat × Nat)} (h : w.ownsRow base t 2 v L.length (nodeCells L)) : NodesR w v L := by
  rcases own_cases h with ⟨h0, A, c, rfl⟩ | ⟨h0, g, c, rfl, hc⟩
  · obtain ⟨_, _, e, hh⟩ := own_slice h
    injection e with _ _ e; subst e
    exact ⟨A, c, rfl, hh, fun hl => absurd h0 (by omega)⟩
  · refine ⟨_, c, rfl, hc, fun _ => ⟨g, 0, rfl, fun k hk => ?_⟩⟩
    have h1 := nodeCells_at L k hk
    constructor
    · rw [Nat.zero_add, h.cellAt (k * 2) (by omega), Nat.mul_comm]; exact h1.1
    · rw [Nat.zero_add, h.cellAt (k * 2 + 1) (by omega), Nat.mul_comm]; exact h1.2
/-- A slice that lies in no block below this one. -/
def Fresh (base : Nat) (v : Value) : Prop := ∀ a n c, v = .slice (some a) n c → base ≤ a.block
theorem Fresh.mono {b b' : Nat} {v : Value} (h : Fresh b v) (hb : b' ≤ b) : Fresh b' v := fun a n c e => Nat.le_trans hb (h a n c e)
theorem NodesR.setCell {w : World} {v : Value} {L : List (Nat × Nat)} (h : NodesR w v L) {base : Nat} (hf : Fresh base v) {p : Addr} (hp : p.block < base) (u : Value) : NodesR (w.setCell p u) v L := by
  obtain ⟨A, cap, rfl, hc, h⟩ := h
  refine ⟨A, cap, rfl, hc, fun hl => ?_⟩
  obtain ⟨g, o, rfl, h'⟩ := h hl
  have hg := hf _ _ _ rfl
  refine ⟨g, o, rfl, fun k hk => ⟨?_, ?_⟩⟩
  · rw [World.cell?_setCell_other w p _ u (fun e => by subst e; simp at hp hg; omega)]; exact (h' k hk).1
  · rw [World.cell?_setCell_other w p _ u (fun e => by subst e; simp at hp hg; omega)]; exact (h' k hk).2
theorem own_fresh {w : World} {base : Nat} {t : TypeId} {size : Nat} {v : Value} {n : Nat} {xs : List Value} (h : w.ownsRow base t size v n xs) : Fresh base v := fun a m c e => by
  subst e
  exact (h.lt a.block rfl).1
def Room (n : Nat) : Prop := n ≤ 4294967296
theorem roomN1 {n k : Nat} (h : Room n) (hk : k ≤ n) : k + 1 ≤ maxLen := by unfold Room at h; unfold maxLen; omega
theorem roomN2 {n k : Nat} (h : Room n) (hk : k ≤ n) : (k + 1) * 16 ≤ 140737488355328 := by unfold Room at h; omega
theorem take_snoc {α : Type} (L : List α) (k : Nat) (h : k < L.length) : L.take (k + 1) = L.take k ++ [L[k]] := by rw [List.take_add_one, List.getElem?_eq_getElem h]; rfl

set_option maxHeartbeats 1000000 in
theorem nodesOf_c (v : Value) (L : List (Nat × Nat)) (w : World) (hv : NodesR w v L) (hroom : Room L.length) : Calls Tryf.prog 40 #[v] w (RetNodes w L) := by
  obtain ⟨i0, hi, hz0, hz1, hz2⟩ := info_parts nodeInfo
  obtain ⟨A, cap, rfl, hcap, hat⟩ := hv
  have hr32 : L.length ≤ 4294967296 := hroom
  go_enter Tryf.func40, Tryf.ntmps40
  go_wp2_with fail
  go_loopw [3, 9] (fun ov kv wr => ∃ k : Nat, k ≤ L.length ∧ kv = .int .i64 k ∧ wr.ownsRow w.heap.size 34 2 ov k (nodeCells (L.take k)) ∧ Below w.heap.size w wr) (fun _ kv _ => L.length - (intOf kv).toNat)
  case atStart => exact ⟨0, Nat.zero_le _, rfl, World.ownsRow_lit _ _ 0 (Nat.le_refl _) (by unfold maxLen; omega) rfl, (Below.refl _ _).alloc (Nat.le_refl _) _⟩
  case round =>
    obtain ⟨k, hk, rfl, hown, hB⟩ := hrel
    by_cases hkl : k < L.length
    · obtain ⟨g, o, rfl, hc⟩ := hat (by omega)
      obtain ⟨c1, c2⟩ := hc k hkl
      have c1 := (hB.cell (World.block_lt_of_cell? w _ c1)).trans c1
      have c2 := (hB.cell (World.block_lt_of_cell? w _ c2)).trans c2
      have HS := take_snoc L k hkl
      have HT : Hid (nodeCells (L.take (k + 1)) = nodeCells (L.take k) ++ [.int .u64 L[k].1, .int .u64 L[k].2]) := by rw [HS]; exact nodeCells_snoc _ _ _
      clear HS hc hat
      generalize L[k].1 = lv at c1 HT
      generalize L[k].2 = iv at c2 HT
      have hk1 : (k : Int) < (L.length : Int) := by omega
      go_wp2_with (at_builtin; refine wpList_append_own _ rfl (.tmp 13) (.tmp 19) 31 rfl w.heap.size 34 i0 (.agg #[.int .u64 0, .int .u64 0]) 2 16 Tryf.underlying31 hi hz0 hz1 hz2 rfl (by decide) _ _ _ rfl ((hown.alloc _).alloc _) ⟨wr.heap.size + 1, 0, none⟩ 1 1 [.int .u64 lv, .int .u64 iv] rfl rfl (by have := World.news_of_block (heap_alloc_new (wr.alloc (.cells #[.int .u64 lv, .int .u64 iv] 60)) (.cells #[.int .u64 lv, .int .u64 iv] 34)); simpa using this) (by simp [Value.oneCell']) (roomN1 hroom hk) (roomN2 hroom hk) (by have := hB.size; simp; omega) ?_; intro v' w1 hown' hgrow _)
      go_roundw
      case rel => exact ⟨k + 1, by omega, by go_num, by rw [HT.out]; exact hown', ((hB.alloc hB.size _).alloc (by simp; have := hB.size; omega) _).grown hgrow (by have := hB.size; simp; omega) (fun k hk => (hown.lt k hk).1)⟩
      case measure => simp [intOf] <;> omega
    · have hk1 : ¬ (k : Int) < (L.length : Int) := by omega
      obtain rfl : k = L.length := by omega
      rw [List.take_length] at hown
      go_wp2_with fail
      go_ret
      exact ⟨_, rfl, hown, hB⟩
end Go.Proofs.YtobnmgnnidhfkaaFmt
