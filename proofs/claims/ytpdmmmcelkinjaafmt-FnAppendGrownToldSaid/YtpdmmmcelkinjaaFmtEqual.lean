/- Bytes as strings; bytes.Equal; proof.verifyMatch. -/
import Derived.Test.YtpdmmmcelkinjaaFmtHashes
import Derived.Laws.BytesArg
namespace Go.Proofs.YtpdmmmcelkinjaaFmt
open Go.ChangeShapes Go.WideShapes Go.ChangeAt Go.RowKit
set_option maxRecDepth 20000
/-- The string of some bytes. -/
def bs (l : List Nat) : ByteArray := strOfNums (l.map fun (n : Nat) => (n : Int))
theorem bs_inj {l m : List Nat} (hl : Pl.Bytes l) (hm : Pl.Bytes m) (h : bs l = bs m) : l = m := by
  have h1 : ((l.map fun (n : Nat) => (n : Int)).map fun n => UInt8.ofNat n.toNat) = ((m.map fun (n : Nat) => (n : Int)).map fun n => UInt8.ofNat n.toNat) := by
    have := congrArg (fun b => b.data.toList) h
    simpa [bs, strOfNums_data] using this
  rw [List.map_map, List.map_map] at h1
  have h2 : ∀ (l m : List Nat), Pl.Bytes l → Pl.Bytes m → l.map (fun n : Nat => UInt8.ofNat ((n : Int).toNat)) = m.map (fun n : Nat => UInt8.ofNat ((n : Int).toNat)) → l = m := by
    intro l
    induction l with
    | nil => intro m _ _ h; cases m with
      | nil => rfl
      | cons b m => simp at h
    | cons a l ih =>
      intro m hl hm h
      cases m with
      | nil => simp at h
      | cons b m =>
        rw [List.map_cons, List.map_cons] at h
        injection h with ha ht
        have e : a = b := by
          have h0 := congrArg UInt8.toNat ha
          have b1 := hl a (by simp)
          have b2 := hm b (by simp)
          simp at h0
          omega
        rw [e, ih m (fun x hx => hl x (by simp [hx])) (fun x hx => hm x (by simp [hx])) ht]
  exact h2 l m hl hm h1
theorem BytesR.str {w : World} {v : Value} {l : List Nat} (h : BytesR w v l) : (convert 28 9 v).run Tryf.prog w = .ok (.string (bs l)) w := by
  obtain ⟨A, cap, rfl, hc, hy, hat⟩ := h
  rcases Nat.eq_zero_or_pos l.length with h0 | h0
  · have hl : l = [] := List.eq_nil_of_length_eq_zero h0
    subst hl
    rw [run_convert_bytes_string w 28 9 5 _ _ cap Tryf.underlying28 Tryf.underlying5 Tryf.underlying9]
    have e0 : bs [] = ByteArray.empty := by rfl
    rw [e0]
    cases A <;> simp [Conv.bytesToString, loadCells]
    all_goals rfl
  · obtain ⟨g, o, rfl, hcell⟩ := hat h0
    refine run_convert_bytes_arg w 28 5 Tryf.underlying28 Tryf.underlying5 g o l.length cap (l.map fun (n : Nat) => (n : Int)) (by simp) (fun i hi => ?_) 9 Tryf.underlying9
    rw [hcell i hi]
    simp [List.getD, hi]
end Go.Proofs.YtpdmmmcelkinjaaFmt
