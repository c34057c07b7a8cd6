/- The check 'within' of the statements. -/
import Derived.Test.YtniodnkejpbheaaFmtNodesOf
import Derived.Test.YtniodnkejpbheaaFmtPlanQ
import Derived.Test.YtniodnkejpbheaaFmtBlk
import Derived.Lib.Hide
namespace Go.Proofs.YtniodnkejpbheaaFmt
open Go.ChangeShapes Go.WideShapes Go.ChangeAt Go.RowKit
set_option maxRecDepth 20000
theorem node_nums {s lv iv : Nat} (h : Pl.ne (lv, iv) ≤ s) (hs : s ≤ 1152921504606846976) :
    lv ≤ 60 ∧ iv ≤ s / 2 ^ lv ∧ IntKind.u64.wrap ((iv : Int) + 1) = ((iv + 1 : Nat) : Int) ∧ IntKind.u64.wrap (((iv + 1 : Nat) : Int) * 2 ^ lv) = (((iv + 1) * 2 ^ lv : Nat) : Int) ∧ (iv + 1) * 2 ^ lv ≤ s := by
  unfold Pl.ne at h
  simp only [] at h
  have hp := Nat.two_pow_pos lv
  have h1 : 1 * 2 ^ lv ≤ (iv + 1) * 2 ^ lv := Nat.mul_le_mul_right _ (by omega)
  have h2 : (iv + 1) * 1 ≤ (iv + 1) * 2 ^ lv := Nat.mul_le_mul_left _ hp
  refine ⟨?_, ?_, ?_, ?_, h⟩
  · rcases Nat.lt_or_ge lv 61 with h3 | h3
    · omega
    · have : 2 ^ 61 ≤ 2 ^ lv := Nat.pow_le_pow_right (by decide) h3
      omega
  · have : iv + 1 ≤ s / 2 ^ lv := (Nat.le_div_iff_mul_le hp).2 h
    omega
  · have := wrapN (iv + 1) (by omega); simpa using this
  · have := wrapN ((iv + 1) * 2 ^ lv) (by omega); simpa using this
theorem within_c (v : Value) (L : List (Nat × Nat)) (el ei s : Nat) (b x : Int) (w : World) (hv : NodesR w v L) (hin : ∀ p ∈ L, Pl.ne p ≤ s) (hs : s ≤ 1152921504606846976) (hroom : L.length ≤ 1000) :
    Calls Tryf.prog 19 #[.agg #[v, .int .u64 (el : Int), .int .u64 (ei : Int), .int .i64 b, .int .i64 x], .int .u64 (s : Int)] w fun e w' => e = .returned (.bool true) ∧ Below w.heap.size w w' := by
  obtain ⟨A, cap, rfl, hcap, hat⟩ := hv
  have HIN := Lib.hid hin
  clear hin
  go_enter Tryf.func19, Tryf.ntmps19
  go_wp2_with fail
  go_loopw [10] (fun kv wr => ∃ k : Nat, k ≤ L.length ∧ kv = .int .i64 k ∧ Below w.heap.size w wr) (fun kv _ => L.length - (intOf kv).toNat)
  case atStart => exact ⟨0, Nat.zero_le _, rfl, (Below.refl _ _).alloc (Nat.le_refl _) _⟩
  case round =>
    obtain ⟨k, hk, rfl, hB⟩ := hrel
    by_cases hkl : k < L.length
    · obtain ⟨g, o, rfl, hc⟩ := hat (by omega)
      obtain ⟨c1, c2⟩ := hc k hkl
      have c1 := (hB.cell (World.block_lt_of_cell? w _ c1)).trans c1
      have c2 := (hB.cell (World.block_lt_of_cell? w _ c2)).trans c2
      obtain ⟨n1, n2, n3, n4, n5⟩ := node_nums (lv := L[k].1) (iv := L[k].2) (HIN.out L[k] (List.getElem_mem hkl)) hs
      generalize L[k].1 = lv at c1 n1 n2 n3 n4 n5
      generalize L[k].2 = iv at c2 n2 n3 n4 n5
      have e1 : (s : Int) / 2 ^ lv = ((s / 2 ^ lv : Nat) : Int) := by simp
      generalize s / 2 ^ lv = sq at n2 e1
      have n4' : IntKind.u64.wrap (IntKind.u64.wrap ((iv : Int) + 1) * 2 ^ lv) = (((iv + 1) * 2 ^ lv : Nat) : Int) := by rw [n3]; exact n4
      generalize (iv + 1) * 2 ^ lv = m at n4 n4' n5
      have hk1 : (k : Int) < (L.length : Int) := by omega
      have hk0 : (0 : Int) ≤ (k : Int) := by omega
      have t1 : ¬ (60 : Int) < (lv : Int) := by omega
      have t2 : ¬ (sq : Int) < (iv : Int) := by omega
      have t3 : ¬ (s : Int) < (m : Int) := by omega
      have hmin : min lv 64 = lv := by omega
      clear hc hat n3 n4
      go_wp2_with fail
      go_roundw
      case rel => exact ⟨k + 1, by omega, by go_num, hB.alloc hB.size _⟩
      case measure => simp [intOf] <;> omega
    · have hk1 : ¬ (k : Int) < (L.length : Int) := by omega
      go_wp2_with fail
      go_ret
      exact ⟨rfl, hB⟩
end Go.Proofs.YtniodnkejpbheaaFmt
