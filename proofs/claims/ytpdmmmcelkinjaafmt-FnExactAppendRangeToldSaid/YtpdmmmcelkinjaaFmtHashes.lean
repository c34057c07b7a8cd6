/- Lists of hashes as they lie in memory; the chains of hashes of the proofs. -/
import Derived.Test.YtpdmmmcelkinjaaFmtHash
import Derived.Test.YtpdmmmcelkinjaaFmtMth
import Derived.Test.YtpdmmmcelkinjaaFmtNode
import Derived.Lib.Hide
import Derived.IntWalk
import Derived.Laws.BytesArg
namespace Go.Proofs.YtpdmmmcelkinjaaFmt
open Go.ChangeShapes Go.WideShapes Go.ChangeAt Go.RowKit
set_option maxRecDepth 20000
theorem BytesR.form {w : World} {v : Value} {l : List Nat} (h : BytesR w v l) : ∃ A n c, v = .slice A n c := by obtain ⟨A, c, rfl, _⟩ := h; exact ⟨A, _, c, rfl⟩
/-- A slice in which these hashes lie. -/
def HashesR (w : World) (v : Value) (L : List (List Nat)) : Prop :=
  ∃ A cap, v = .slice A L.length cap ∧ L.length ≤ cap ∧ (∀ x ∈ L, Pl.Bytes x) ∧ (0 < L.length → ∃ g o, A = some ⟨g, o, none⟩ ∧ ∀ k (h : k < L.length), ∃ u, w.cell? ⟨g, o + k, none⟩ = some u ∧ BytesR w u L[k])
theorem HashesR.below {w w' : World} {v : Value} {L : List (List Nat)} (h : HashesR w v L) (hb : Below w.heap.size w w') : HashesR w' v L := by
  obtain ⟨A, cap, rfl, hc, hy, h⟩ := h
  refine ⟨A, cap, rfl, hc, hy, fun hl => ?_⟩
  obtain ⟨g, o, rfl, h'⟩ := h hl
  exact ⟨g, o, rfl, fun k hk => by
    obtain ⟨u, hu, hbr⟩ := h' k hk
    exact ⟨u, (hb.cell (World.block_lt_of_cell? w _ hu)).trans hu, hbr.below hb⟩⟩
/-- The hash function as the interface's value. -/
def hasherV (h : Pl.HF) : Value := .iface 24 (hashV h)
end Go.Proofs.YtpdmmmcelkinjaaFmt
/- Bytes as strings; bytes.Equal; proof.verifyMatch. -/
namespace Go.Proofs.YtpdmmmcelkinjaaFmt
open Go.ChangeShapes Go.WideShapes Go.ChangeAt Go.RowKit
set_option maxRecDepth 20000
/-- The string of some bytes. -/
def bs (l : List Nat) : ByteArray := strOfNums (l.map fun (n : Nat) => (n : Int))
theorem bs_inj {l m : List Nat} (hl : Pl.Bytes l) (hm : Pl.Bytes m) (h : bs l = bs m) : l = m := by
  have h1 : ((l.map fun (n : Nat) => (n : Int)).map fun n => UInt8.ofNat n.toNat) = ((m.map fun (n : Nat) => (n : Int)).map fun n => UInt8.ofNat n.toNat) := by
    have := congrArg (fun b => b.data.toList) h
    simpa [bs, strOfNums_data] using this
  rw [List.map_map, List.map_map] at h1
  have h2 : ∀ (l m : List Nat), Pl.Bytes l → Pl.Bytes m → l.map (fun n : Nat => UInt8.ofNat ((n : Int).toNat)) = m.map (fun n : Nat => UInt8.ofNat ((n : Int).toNat)) → l = m := by
    intro l
    induction l with
    | nil => intro m _ _ h; cases m with
      | nil => rfl
      | cons b m => simp at h
    | cons a l ih =>
      intro m hl hm h
      cases m with
      | nil => simp at h
      | cons b m =>
        rw [List.map_cons, List.map_cons] at h
        injection h with ha ht
        have e : a = b := by
          have h0 := congrArg UInt8.toNat ha
          have b1 := hl a (by simp)
          have b2 := hm b (by simp)
          simp at h0
          omega
        rw [e, ih m (fun x hx => hl x (by simp [hx])) (fun x hx => hm x (by simp [hx])) ht]
  exact h2 l m hl hm h1
theorem BytesR.str {w : World} {v : Value} {l : List Nat} (h : BytesR w v l) : (convert 28 9 v).run Tryf.prog w = .ok (.string (bs l)) w := by
  obtain ⟨A, cap, rfl, hc, hy, hat⟩ := h
  rcases Nat.eq_zero_or_pos l.length with h0 | h0
  · have hl : l = [] := List.eq_nil_of_length_eq_zero h0
    subst hl
    rw [run_convert_bytes_string w 28 9 5 _ _ cap Tryf.underlying28 Tryf.underlying5 Tryf.underlying9]
    have e0 : bs [] = ByteArray.empty := by rfl
    rw [e0]
    cases A <;> simp [Conv.bytesToString, loadCells]
    all_goals rfl
  · obtain ⟨g, o, rfl, hcell⟩ := hat h0
    refine run_convert_bytes_arg w 28 5 Tryf.underlying28 Tryf.underlying5 g o l.length cap (l.map fun (n : Nat) => (n : Int)) (by simp) (fun i hi => ?_) 9 Tryf.underlying9
    rw [hcell i hi]
    simp [List.getD, hi]
end Go.Proofs.YtpdmmmcelkinjaaFmt
