/- What proof.reverse does to the end of a list of nodes. -/
import Derived.Test.YtniodnkejpbheaaFmtNodes
import Derived.BigRegion
import Derived.BigQuiet
import Derived.Deep.QuietTactic
import Derived.IntWalk
namespace Go.Proofs.YtniodnkejpbheaaFmt
open Go.ChangeShapes Go.WideShapes Go.ChangeAt Go.RowKit

namespace Pl
/-- How far a reversal of the last n entries has come behind k rounds. -/
def RevAt (L X : List (Nat × Nat)) (off n k : Nat) : Prop :=
  X.length = L.length ∧ (∀ i, i < off → X[i]? = L[i]?) ∧ ∀ i, i < n → X[off + i]? = if i < k ∨ n ≤ i + k then L[off + (n - 1 - i)]? else L[off + i]?
theorem RevAt.start (L : List (Nat × Nat)) (off n : Nat) : RevAt L L off n 0 := ⟨rfl, fun _ _ => rfl, fun i hi => by rw [if_neg (by omega)]⟩
theorem RevAt.step {L X : List (Nat × Nat)} {off n k : Nat} (h : RevAt L X off n k) (hL : off + n = L.length) (hk : k + k + 1 < n) {p q : Nat × Nat} (hp : X[off + k]? = some p) (hq : X[off + (n - 1 - k)]? = some q) :
    RevAt L ((X.set (off + k) q).set (off + (n - 1 - k)) p) off n (k + 1) := by
  obtain ⟨h1, h2, h3⟩ := h
  refine ⟨by simpa using h1, fun i hi => ?_, fun i hi => ?_⟩
  · rw [List.getElem?_set_ne (by omega), List.getElem?_set_ne (by omega), h2 i hi]
  · have a1 := h3 k (by omega)
    have a2 := h3 (n - 1 - k) (by omega)
    rw [if_neg (by omega)] at a1 a2
    by_cases e1 : i = n - 1 - k
    · subst e1
      rw [List.getElem?_set_self (by simp; omega), if_pos (by omega), ← hp, a1]
      congr 1; omega
    · rw [List.getElem?_set_ne (by omega)]
      by_cases e2 : i = k
      · subst e2
        rw [List.getElem?_set_self (by omega), if_pos (by omega), ← hq, a2]
      · rw [List.getElem?_set_ne (by omega), h3 i hi]
        by_cases e3 : i < k ∨ n ≤ i + k
        · rw [if_pos e3, if_pos (by omega)]
        · rw [if_neg e3, if_neg (by omega)]
theorem RevAt.done {L X : List (Nat × Nat)} {off n k : Nat} (h : RevAt L X off n k) (hL : off + n = L.length) (hk : n ≤ k + k + 1) : X = L.take off ++ (L.drop off).reverse := by
  obtain ⟨h1, h2, h3⟩ := h
  apply List.ext_getElem?
  intro j
  by_cases hj : j < off
  · rw [h2 j hj, List.getElem?_append_left (by simp; omega), List.getElem?_take_of_lt hj]
  · have ht : (L.take off).length = off := by simp; omega
    rw [List.getElem?_append_right (by omega), ht]
    by_cases hn : j < off + n
    · obtain ⟨i, rfl⟩ : ∃ i, j = off + i := ⟨j - off, by omega⟩
      rw [h3 i (by omega), Nat.add_sub_cancel_left, List.getElem?_reverse (by simp; omega), List.getElem?_drop]
      by_cases e : i < k ∨ n ≤ i + k
      · rw [if_pos e]; congr 1; simp; omega
      · rw [if_neg e]; congr 1; simp; omega
    · rw [List.getElem?_eq_none (by omega), List.getElem?_eq_none (by simp; omega)]
theorem nodeCells_set (X : List (Nat × Nat)) : ∀ (i : Nat) (p : Nat × Nat), ((nodeCells X).set (i * 2) (.int .u64 p.1)).set (i * 2 + 1) (.int .u64 p.2) = nodeCells (X.set i p) := by
  induction X with
  | nil => intro i p; rfl
  | cons x X ih =>
    intro i p
    cases i with
    | zero => rfl
    | succ i =>
      have := ih i p
      unfold nodeCells at this ⊢
      rw [List.flatMap_cons, List.set_cons_succ, List.flatMap_cons, ← this]
      simp [Nat.succ_mul]
end Pl
open Pl

/-- Without entries nothing is done. -/
theorem reverse_0 (A : Option Addr) (c : Nat) (w : World) : Calls Tryf.prog 65 #[.slice A 0 c] w fun e w' => e = .returned (.tuple #[]) ∧ w = w' := by
  go_enter Tryf.func65, Tryf.ntmps65
  go_wp2_with fail
  go_loopw [2, 3] (fun iv jv wr => iv = .int .i64 0 ∧ jv = .int .i64 (-1) ∧ wr = w) (fun _ _ _ => 0)
  case atStart => exact ⟨rfl, rfl, rfl⟩
  case round =>
    obtain ⟨rfl, rfl, rfl⟩ := hrel
    go_wp2_with fail
    go_end0
    exact ⟨rfl, rfl⟩
set_option maxHeartbeats 2000000 in
theorem reverse_c (base g cap off n : Nat) (L : List (Nat × Nat)) (w : World) (hown : w.ownsRow base 55 2 (.slice (some ⟨g, 0, none⟩) L.length cap) L.length (nodeCells L)) (hL : off + n = L.length) (c : Nat) (hcap : c + off = cap) (hn : 0 < n) (hroom : Room L.length) :
    Calls Tryf.prog 65 #[.slice (some ⟨g, off * 2, none⟩) n c] w fun e w' => e = .returned (.tuple #[]) ∧ w'.ownsRow base 55 2 (.slice (some ⟨g, 0, none⟩) L.length cap) L.length (nodeCells (L.take off ++ (L.drop off).reverse)) ∧ w.grownBy w' (some g) := by
  have hr32 : L.length ≤ 4294967296 := hroom
  go_enter Tryf.func65, Tryf.ntmps65
  go_wp2_with fail
  go_loopw [2, 3] (fun iv jv wr => ∃ (k m : Nat) (X : List (Nat × Nat)), k + m + 1 = n ∧ k ≤ m + 1 ∧ iv = .int .i64 k ∧ jv = .int .i64 m ∧ Hid (RevAt L X off n k) ∧ Hid (wr.ownsRow base 55 2 (.slice (some ⟨g, 0, none⟩) L.length cap) L.length (nodeCells X)) ∧ w.grownBy wr (some g)) (fun iv _ _ => n - (intOf iv).toNat)
  case atStart => exact ⟨0, n - 1, L, by omega, by omega, rfl, by go_num, RevAt.start L off n, hown, World.grownBy.refl _ _⟩
  case round =>
    obtain ⟨k, m, X, hkm, hkm2, rfl, rfl, HR, HO, hG⟩ := hrel
    have hX : X.length = L.length := HR.out.1
    by_cases hlt : k < m
    · have hk1 : (k : Int) < (m : Int) := by omega
      have hk2 : (k : Int) < (n : Int) := by omega
      have hk3 : (m : Int) < (n : Int) := by omega
      obtain ⟨p, hp⟩ : ∃ p, X[off + k]? = some p := ⟨_, List.getElem?_eq_getElem (by omega)⟩
      obtain ⟨q, hq⟩ : ∃ q, X[off + m]? = some q := ⟨_, List.getElem?_eq_getElem (by omega)⟩
      have hp' : X[off + k]'(by omega) = p := by rw [List.getElem?_eq_getElem (by omega)] at hp; simpa using hp
      have hq' : X[off + m]'(by omega) = q := by rw [List.getElem?_eq_getElem (by omega)] at hq; simpa using hq
      have cp := nodeCells_at X (off + k) (by omega)
      have cq := nodeCells_at X (off + m) (by omega)
      rw [hp'] at cp
      rw [hq'] at cq
      have c1 : wr.cell? ⟨g, off * 2 + k * 2, none⟩ = some (.int .u64 p.1) := by rw [HO.out.cellAt _ (by omega), ← cp.1]; congr 1; omega
      have c2 : wr.cell? ⟨g, off * 2 + k * 2 + 1, none⟩ = some (.int .u64 p.2) := by rw [HO.out.cellAt _ (by omega), ← cp.2]; congr 1; omega
      have d1 : wr.cell? ⟨g, off * 2 + m * 2, none⟩ = some (.int .u64 q.1) := by rw [HO.out.cellAt _ (by omega), ← cq.1]; congr 1; omega
      have d2 : wr.cell? ⟨g, off * 2 + m * 2 + 1, none⟩ = some (.int .u64 q.2) := by rw [HO.out.cellAt _ (by omega), ← cq.2]; congr 1; omega
      have f1 := HO.out.frozenAt (off * 2 + k * 2)
      have f2 := HO.out.frozenAt (off * 2 + k * 2 + 1)
      have f3 := HO.out.frozenAt (off * 2 + m * 2)
      have f4 := HO.out.frozenAt (off * 2 + m * 2 + 1)
      have HN : Hid (RevAt L ((X.set (off + k) q).set (off + m) p) off n (k + 1)) := by
        have := HR.out.step hL (k := k) (by omega) hp (by rw [show n - 1 - k = m by omega]; exact hq)
        rwa [show n - 1 - k = m by omega] at this
      have HE1 : Hid (nodeCells ((X.set (off + k) q).set (off + m) p) = (((((nodeCells X).set ((off + k) * 2) (.int .u64 q.1)).set ((off + k) * 2 + 1) (.int .u64 q.2)).set ((off + m) * 2) (.int .u64 p.1)).set ((off + m) * 2 + 1) (.int .u64 p.2))) := by
        show _ = _
        rw [nodeCells_set, nodeCells_set]
      clear cp cq hp hq hp' hq' HR
      obtain ⟨p1, p2⟩ := p
      obtain ⟨q1, q2⟩ := q
      simp only [] at c1 c2 d1 d2
      go_wp2_with fail
      go_region
      have o1 := HO.out.stored (off * 2 + k * 2) (.int .u64 q1)
      have o2 := o1.1.stored (off * 2 + k * 2 + 1) (.int .u64 q2)
      have o3 := o2.1.stored (off * 2 + m * 2) (.int .u64 p1)
      have o4 := o3.1.stored (off * 2 + m * 2 + 1) (.int .u64 p2)
      have G4 : w.grownBy ((((wr.setCell ⟨g, off * 2 + k * 2, none⟩ (.int .u64 q1)).setCell ⟨g, off * 2 + k * 2 + 1, none⟩ (.int .u64 q2)).setCell ⟨g, off * 2 + m * 2, none⟩ (.int .u64 p1)).setCell ⟨g, off * 2 + m * 2 + 1, none⟩ (.int .u64 p2)) (some g) := (((hG.trans o1.2).trans o2.2).trans o3.2).trans o4.2
      have O4 : Hid (((((wr.setCell ⟨g, off * 2 + k * 2, none⟩ (.int .u64 q1)).setCell ⟨g, off * 2 + k * 2 + 1, none⟩ (.int .u64 q2)).setCell ⟨g, off * 2 + m * 2, none⟩ (.int .u64 p1)).setCell ⟨g, off * 2 + m * 2 + 1, none⟩ (.int .u64 p2)).ownsRow base 55 2 (.slice (some ⟨g, 0, none⟩) L.length cap) L.length (nodeCells ((X.set (off + k) (q1, q2)).set (off + m) (p1, p2)))) := by
        have := o4.1
        rw [show off * 2 + k * 2 = (off + k) * 2 by omega, show off * 2 + m * 2 = (off + m) * 2 by omega] at this ⊢
        rw [HE1.out]
        exact this
      have hm1 : IntKind.i64.wrap ((m : Int) - 1) = ((m - 1 : Nat) : Int) := by rw [IntWalk.i64_in _ (by omega)]; omega
      clear o1 o2 o3 o4 c1 c2 d1 d2 f1 f2 f3 f4 HE1 HO
      go_wp2_with fail
      go_roundw
      case rel => exact ⟨k + 1, m - 1, _, by omega, by omega, by go_num, rfl, HN, O4, ⟨G4.os, G4.tape, G4.output, G4.size, G4.block⟩⟩
      case measure => simp [intOf] <;> omega
    · have hk1 : ¬ (k : Int) < (m : Int) := by omega
      go_wp2_with fail
      go_end0
      exact ⟨rfl, by rw [← HR.out.done hL (by omega)]; exact HO.out, hG⟩
end Go.Proofs.YtniodnkejpbheaaFmt
