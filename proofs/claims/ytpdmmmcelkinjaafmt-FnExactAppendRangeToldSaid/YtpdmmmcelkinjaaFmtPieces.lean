/- What spec.Pieces returns: the nodes of the fewest perfect trees, in new memory. -/
import Derived.Test.YtpdmmmcelkinjaaFmtBits
import Derived.Deep.AppendLies
import Derived.WalkKit
import Derived.Outline
import Derived.Deep.Onto
namespace Go.Proofs.YtpdmmmcelkinjaaFmt
open Go.ChangeShapes Go.WideShapes Go.ChangeAt Go.RowKit

theorem nodeInfo : (Tryf.prog.info? 45).map (fun i => (i.zero, i.size, i.bytes)) = some (some (.agg #[.int .u64 0, .int .u64 0]), 2, 16) := by kernel_rfl
/-- The cells of nodes. -/
def nodeCells (L : List (Nat × Nat)) : List Value := L.flatMap fun p => [.int .u64 p.1, .int .u64 p.2]
theorem nodeCells_snoc (L : List (Nat × Nat)) (l i : Nat) : nodeCells (L ++ [(l, i)]) = nodeCells L ++ [.int .u64 l, .int .u64 i] := by simp [nodeCells]
def RetNodes (w : World) (L : List (Nat × Nat)) (e : Ending) (w' : World) : Prop :=
  ∃ v, e = .returned v ∧ w'.ownsRow w.heap.size 45 2 v L.length (nodeCells L) ∧ Below w.heap.size w w'

theorem lenOk1 {n : Nat} (h : n ≤ 128) : n + 1 ≤ maxLen := by unfold maxLen; omega
theorem lenOk2 {n : Nat} (h : n ≤ 128) : (n + 1) * 16 ≤ 140737488355328 := by omega
theorem shl2_wrap (l : Nat) (h : l < 63) : IntKind.u64.wrap (2 * 2 ^ l) = ((2 ^ (l + 1) : Nat) : Int) := by
  have h1 := Nat.pow_le_pow_right (n := 2) (by omega) (show l + 1 ≤ 63 by omega)
  have e : ((2 ^ (l + 1) : Nat) : Int) = 2 * (2 : Int) ^ l := by rw [Nat.pow_succ, Nat.mul_comm]; simp
  rw [← e, IntKind.wrap_u64]
  generalize 2 ^ (l + 1) = q at *
  omega
set_option maxRecDepth 20000 in
set_option maxHeartbeats 1000000 in
theorem pieces_c (b e : Nat) (hb : b < 18446744073709551616) (he : e < 18446744073709551616) (w : World) :
    Calls Tryf.prog 20 #[.int .u64 b, .int .u64 e] w (RetNodes w (Pl.pieces b e)) := by
  obtain ⟨i0, hi, hz0, hz1, hz2⟩ := info_parts nodeInfo
  go_enter Tryf.func20, Tryf.ntmps20
  go_wp2
  go_loopw [0, 5] (fun bv v wr => ∃ bk : Nat, bv = .int .u64 bk ∧ ∃ L, wr.ownsRow w.heap.size 45 2 v L.length (nodeCells L) ∧ L ++ Pl.pieces bk e = Pl.pieces b e ∧ Below w.heap.size w wr) (fun bv _ _ => e - (intOf bv).toNat)
  case atStart => exact ⟨b, rfl, [], World.ownsRow_lit _ _ 0 (Nat.le_refl _) (by unfold maxLen; omega) rfl, rfl, (Below.refl _ _).alloc (Nat.le_refl _) _⟩
  case round =>
    obtain ⟨bk, rfl, L, hown, hL, hB⟩ := hrel
    have HL : Hid (L ++ Pl.pieces bk e = Pl.pieces b e) := hL
    have HE : Hid (b < 18446744073709551616 ∧ e < 18446744073709551616) := ⟨hb, he⟩
    clear hL hb he
    by_cases hlt : bk < e
    · go_wp2
      go_loop [6] (fun lv => ∃ l : Nat, l ≤ 63 ∧ lv = .int .u64 l ∧ bk % 2 ^ l = 0 ∧ 2 ^ l ≤ e - bk) (fun lv => 63 - (intOf lv).toNat)
      case atStart => exact ⟨0, by omega, rfl, by simp [Nat.mod_one], by simp; omega⟩
      case round =>
        obtain ⟨l, hl, rfl, hm, hp⟩ := hrel
        have HM : Hid (bk % 2 ^ l = 0 ∧ 2 ^ l ≤ e - bk) := ⟨hm, hp⟩
        clear hm hp
        obtain ⟨hl3, hm, hp⟩ : l ≤ 63 ∧ bk % 2 ^ l = 0 ∧ 2 ^ l ≤ e - bk := ⟨hl, HM.out⟩
        obtain ⟨hb, he⟩ := HE.out
        have hd : IntKind.u64.wrap ((e : Int) - (bk : Int)) = ((e - bk : Nat) : Int) := by rw [IntKind.wrap_u64]; omega
        by_cases hA : l < 63 ∧ bk % 2 ^ (l + 1) = 0 ∧ 2 ^ (l + 1) ≤ e - bk
        · obtain ⟨hl2, h2, h3⟩ := hA
          have hw := shl2_wrap l hl2
          have hp0 := Nat.two_pow_pos (l + 1)
          have HN : Hid (bk % 2 ^ (l + 1) = 0 ∧ 2 ^ (l + 1) ≤ e - bk) := ⟨h2, h3⟩
          generalize 2 ^ (l + 1) = p at h2 h3 hw hp0
          have h2' : ((bk : Int) % (p : Int) == 0) = true := by simp; omega
          have hp0' : ((p : Int) == 0) = false := by simp; omega
          have h3' : (p : Int) ≤ ((e - bk : Nat) : Int) := by omega
          clear hb he hm hp h2 h3 hl3 hp0'
          go_wp2
          go_round
          case rel => exact ⟨l + 1, by omega, by go_num, HN.out.1, HN.out.2⟩
          case measure => simp [intOf]; omega
        · have key : Pl.pieces bk e = (l, bk / 2 ^ l) :: Pl.pieces (bk + 2 ^ l) e := by
            have := Pl.pcs_cons 64 0 bk e l hlt he hm hp (by
              by_cases hq : l = 63
              · subst hq; right; omega
              · by_cases hq2 : bk % 2 ^ (l + 1) = 0
                · right
                  rcases Nat.lt_or_ge (e - bk) (2 ^ (l + 1)) with h | h
                  · exact h
                  · exact absurd ⟨by omega, hq2, h⟩ hA
                · exact .inl hq2)
            rw [Nat.zero_add] at this
            exact this
          have HK : Hid (Pl.pieces bk e = (l, bk / 2 ^ l) :: Pl.pieces (bk + 2 ^ l) e) := key
          have hp' := hp
          clear key hm hp
          have hr : ∃ r : Nat, r = 2 ^ l := ⟨_, rfl⟩
          obtain ⟨r, hr⟩ := hr
          obtain ⟨q, hq⟩ : ∃ q : Nat, q = bk / 2 ^ l := ⟨_, rfl⟩
          have hq' : (bk : Int) / 2 ^ l = (q : Int) := by rw [hq]; simp
          have hs1 : IntKind.u64.wrap (2 ^ l) = (r : Int) := by
            rw [show (2 : Int) ^ l = ((2 ^ l : Nat) : Int) by simp, ← hr, IntKind.wrap_u64]; rw [← hr] at hp'; omega
          rw [← hr] at hp'
          have hs2 : IntKind.u64.wrap ((bk : Int) + (r : Int)) = (bk : Int) + (r : Int) := by rw [IntKind.wrap_u64]; omega
          have hr0 : 0 < r := by rw [hr]; exact Nat.two_pow_pos l
          have hlen : L.length ≤ 128 := by
            have h1 := congrArg List.length HL.out
            have h2 := Pl.pieces_len b e he
            rw [List.length_append] at h1
            omega
          have HK : Hid ((L ++ [(l, q)]) ++ Pl.pieces (bk + r) e = Pl.pieces b e) := by
            rw [← HL.out, HK.out, hr, hq]; simp [Hid]
          by_cases h63 : 63 ≤ l
          · have hn : ¬ (l : Int) < 63 := by omega
            clear hq hb he hr
            clear hA HM hl h63
            go_wp2_with (at_builtin; refine wpList_append_own _ rfl (.tmp 30) (.tmp 36) 37 rfl w.heap.size 45 i0 (.agg #[.int .u64 0, .int .u64 0]) 2 16 Tryf.underlying37 hi hz0 hz1 hz2 rfl (by decide) _ _ _ rfl (hown.alloc _) ⟨wr.heap.size, 0, none⟩ 1 1 [.int .u64 l, .int .u64 q] rfl rfl (World.news_of_block (heap_alloc_new wr _)) (by simp [Value.oneCell']) (lenOk1 hlen) (lenOk2 hlen) (by have := hB.size; simp; omega) ?_; intro v' w1 hown' hgrow _)
            go_roundw
            case rel => exact ⟨bk + r, by go_num, L ++ [(l, q)], by simpa [nodeCells_snoc] using hown', HK.out, (hB.alloc hB.size _).grown hgrow (by have := hB.size; simp; omega) (fun k hk => (hown.lt k hk).1)⟩
            case measure => simp [intOf]; omega
          · have hl2 : l < 63 := by omega
            have hw := shl2_wrap l hl2
            have hp0 := Nat.two_pow_pos (l + 1)
            have hA' : ¬ (bk % 2 ^ (l + 1) = 0 ∧ 2 ^ (l + 1) ≤ e - bk) := fun h => hA ⟨hl2, h⟩
            clear hA
            have hA := hA'
            generalize 2 ^ (l + 1) = p at hA hA' hw hp0
            by_cases h2 : bk % p = 0
            · have h3 : ¬ (p : Int) ≤ ((e - bk : Nat) : Int) := fun h => hA ⟨h2, by omega⟩
              have h2' : ((bk : Int) % (p : Int) == 0) = true := by simp; omega
              clear hq hb he hr hA' h2
              clear hA HM hl h63
              go_wp2_with (at_builtin; refine wpList_append_own _ rfl (.tmp 30) (.tmp 36) 37 rfl w.heap.size 45 i0 (.agg #[.int .u64 0, .int .u64 0]) 2 16 Tryf.underlying37 hi hz0 hz1 hz2 rfl (by decide) _ _ _ rfl (hown.alloc _) ⟨wr.heap.size, 0, none⟩ 1 1 [.int .u64 l, .int .u64 q] rfl rfl (World.news_of_block (heap_alloc_new wr _)) (by simp [Value.oneCell']) (lenOk1 hlen) (lenOk2 hlen) (by have := hB.size; simp; omega) ?_; intro v' w1 hown' hgrow _)
              go_roundw
              case rel => exact ⟨bk + r, by go_num, L ++ [(l, q)], by simpa [nodeCells_snoc] using hown', HK.out, (hB.alloc hB.size _).grown hgrow (by have := hB.size; simp; omega) (fun k hk => (hown.lt k hk).1)⟩
              case measure => simp [intOf]; omega
            · have h2' : ((bk : Int) % (p : Int) == 0) = false := by simp; omega
              clear hq hb he hr hA' h2
              clear hA HM hl h63
              go_wp2_with (at_builtin; refine wpList_append_own _ rfl (.tmp 30) (.tmp 36) 37 rfl w.heap.size 45 i0 (.agg #[.int .u64 0, .int .u64 0]) 2 16 Tryf.underlying37 hi hz0 hz1 hz2 rfl (by decide) _ _ _ rfl (hown.alloc _) ⟨wr.heap.size, 0, none⟩ 1 1 [.int .u64 l, .int .u64 q] rfl rfl (World.news_of_block (heap_alloc_new wr _)) (by simp [Value.oneCell']) (lenOk1 hlen) (lenOk2 hlen) (by have := hB.size; simp; omega) ?_; intro v' w1 hown' hgrow _)
              go_roundw
              case rel => exact ⟨bk + r, by go_num, L ++ [(l, q)], by simpa [nodeCells_snoc] using hown', HK.out, (hB.alloc hB.size _).grown hgrow (by have := hB.size; simp; omega) (fun k hk => (hown.lt k hk).1)⟩
              case measure => simp [intOf]; omega
    · have hnil : Pl.pieces bk e = [] := Pl.pcs_nil _ _ _ _ (by omega)
      have hfin : Pl.pieces b e = L := by rw [← HL.out, hnil, List.append_nil]
      have HF : Hid (Pl.pieces b e = L) := hfin
      clear HL hnil hfin
      have hn : ¬ (bk : Int) < (e : Int) := by omega
      go_wp2
      go_ret
      exact ⟨_, rfl, by rw [HF.out]; exact hown, hB⟩
theorem own_slice {w : World} {base : Nat} {e : TypeId} {size : Nat} {v : Value} {n : Nat} {xs : List Value} (h : w.ownsRow base e size v n xs) : ∃ A c, v = .slice A n c ∧ n ≤ c := by
  rcases h.2 with ⟨rfl, rfl⟩ | ⟨g, cap, cur, rfl, _, _, hc, _⟩
  · exact ⟨none, 0, rfl, Nat.le_refl _⟩
  · exact ⟨_, cap, rfl, hc⟩
theorem own_cases {w : World} {base : Nat} {e : TypeId} {size : Nat} {v : Value} {n : Nat} {xs : List Value} (h : w.ownsRow base e size v n xs) : (n = 0 ∧ ∃ A c, v = .slice A n c) ∨ (0 < n ∧ ∃ g c, v = .slice (some ⟨g, 0, none⟩) n c ∧ n ≤ c) := by
  rcases h.2 with ⟨rfl, rfl⟩ | ⟨g, cap, cur, rfl, _, _, hc, _⟩
  · exact .inl ⟨rfl, none, 0, rfl⟩
  · rcases Nat.eq_zero_or_pos n with h0 | h0
    · exact .inl ⟨h0, _, cap, rfl⟩
    · exact .inr ⟨h0, g, cap, rfl, hc⟩
theorem own_below {w w' : World} {base : Nat} {e : TypeId} {size : Nat} {v : Value} {n : Nat} {xs : List Value} (h : w.ownsRow base e size v n xs) (hb : Below w.heap.size w w') : w'.ownsRow base e size v n xs :=
  h.kept (row := none) ⟨hb.os, hb.tape, hb.output, hb.size, fun k hk _ => hb.block k hk⟩ (by cases hv : v.ownBlock <;> simp)
theorem nodeCells_at : ∀ (L : List (Nat × Nat)) (k : Nat) (h : k < L.length), (nodeCells L)[2 * k]? = some (.int .u64 L[k].1) ∧ (nodeCells L)[2 * k + 1]? = some (.int .u64 L[k].2)
  | p :: L, 0, _ => by simp [nodeCells]
  | p :: L, k + 1, h => by
    have := nodeCells_at L k (by simpa using h)
    simp only [nodeCells, List.flatMap_cons, List.cons_append, List.nil_append] at *
    rw [show 2 * (k + 1) = 2 * k + 1 + 1 by omega, show 2 * k + 1 + 1 + 1 = (2 * k + 1) + 1 + 1 by omega]
    simpa using this
theorem nodeCells_length (L : List (Nat × Nat)) : (nodeCells L).length = L.length * 2 := by
  induction L with
  | nil => rfl
  | cons p L ih => simp only [nodeCells, List.flatMap_cons, List.length_append, List.length_cons, List.length_nil] at *; omega
end Go.Proofs.YtpdmmmcelkinjaaFmt
/- Lists of nodes as they lie in memory; what impl.nodesOf makes. -/
namespace Go.Proofs.YtpdmmmcelkinjaaFmt
open Go.ChangeShapes Go.WideShapes Go.ChangeAt Go.RowKit

/-- A slice in which these nodes lie. -/
def NodesR (w : World) (v : Value) (L : List (Nat × Nat)) : Prop :=
  ∃ A cap, v = .slice A L.length cap ∧ L.length ≤ cap ∧ (0 < L.length → ∃ g o, A = some ⟨g, o, none⟩ ∧ ∀ k (h : k < L.length), w.cell? ⟨g, o + k * 2, none⟩ = some (.int .u64 L[k].1) ∧ w.cell? ⟨g, o + k * 2 + 1, none⟩ = some (.int .u64 L[k].2))
theorem NodesR.below {w w' : World} {v : Value} {L : List (Nat × Nat)} (h : NodesR w v L) (hb : Below w.heap.size w w') : NodesR w' v L := by
  obtain ⟨A, cap, rfl, hc, h⟩ := h
  refine ⟨A, cap, rfl, hc, fun hl => ?_⟩
  obtain ⟨g, o, rfl, h'⟩ := h hl
  clear h; have h := h'
  exact ⟨g, o, rfl, fun k hk => ⟨(hb.cell (World.block_lt_of_cell? w _ (h k hk).1)).trans (h k hk).1, (hb.cell (World.block_lt_of_cell? w _ (h k hk).2)).trans (h k hk).2⟩⟩
theorem NodesR.of_own {w : World} {base : Nat} {t : TypeId} {v : Value} {L : List (Nat × Nat)} (h : w.ownsRow base t 2 v L.length (nodeCells L)) : NodesR w v L := by
  rcases own_cases h with ⟨h0, A, c, rfl⟩ | ⟨h0, g, c, rfl, hc⟩
  · obtain ⟨_, _, e, hh⟩ := own_slice h
    injection e with _ _ e; subst e
    exact ⟨A, c, rfl, hh, fun hl => absurd h0 (by omega)⟩
  · refine ⟨_, c, rfl, hc, fun _ => ⟨g, 0, rfl, fun k hk => ?_⟩⟩
    have h1 := nodeCells_at L k hk
    constructor
    · rw [Nat.zero_add, h.cellAt (k * 2) (by omega), Nat.mul_comm]; exact h1.1
    · rw [Nat.zero_add, h.cellAt (k * 2 + 1) (by omega), Nat.mul_comm]; exact h1.2
/-- A slice that lies in no block below this one. -/
def Fresh (base : Nat) (v : Value) : Prop := ∀ a n c, v = .slice (some a) n c → base ≤ a.block
theorem Fresh.mono {b b' : Nat} {v : Value} (h : Fresh b v) (hb : b' ≤ b) : Fresh b' v := fun a n c e => Nat.le_trans hb (h a n c e)
theorem NodesR.setCell {w : World} {v : Value} {L : List (Nat × Nat)} (h : NodesR w v L) {base : Nat} (hf : Fresh base v) {p : Addr} (hp : p.block < base) (u : Value) : NodesR (w.setCell p u) v L := by
  obtain ⟨A, cap, rfl, hc, h⟩ := h
  refine ⟨A, cap, rfl, hc, fun hl => ?_⟩
  obtain ⟨g, o, rfl, h'⟩ := h hl
  have hg := hf _ _ _ rfl
  refine ⟨g, o, rfl, fun k hk => ⟨?_, ?_⟩⟩
  · rw [World.cell?_setCell_other w p _ u (fun e => by subst e; simp at hp hg; omega)]; exact (h' k hk).1
  · rw [World.cell?_setCell_other w p _ u (fun e => by subst e; simp at hp hg; omega)]; exact (h' k hk).2
theorem own_fresh {w : World} {base : Nat} {t : TypeId} {size : Nat} {v : Value} {n : Nat} {xs : List Value} (h : w.ownsRow base t size v n xs) : Fresh base v := fun a m c e => by
  subst e
  exact (h.lt a.block rfl).1
def Room (n : Nat) : Prop := n ≤ 4294967296
theorem roomN1 {n k : Nat} (h : Room n) (hk : k ≤ n) : k + 1 ≤ maxLen := by unfold Room at h; unfold maxLen; omega
theorem roomN2 {n k : Nat} (h : Room n) (hk : k ≤ n) : (k + 1) * 16 ≤ 140737488355328 := by unfold Room at h; omega
theorem take_snoc {α : Type} (L : List α) (k : Nat) (h : k < L.length) : L.take (k + 1) = L.take k ++ [L[k]] := by rw [List.take_add_one, List.getElem?_eq_getElem h]; rfl

end Go.Proofs.YtpdmmmcelkinjaaFmt
