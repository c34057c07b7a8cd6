/- The nodes and hashes that were told, one by one. -/
import Derived.Test.YtpdmmmcelkinjaaFmtKeep
namespace Go.Proofs.YtpdmmmcelkinjaaFmt
open Go.ChangeShapes Go.WideShapes Go.ChangeAt Go.RowKit
set_option maxRecDepth 20000
theorem seenCells_at : ∀ (S : List SeenN) (us : List Value) (k : Nat) (s : SeenN) (u : Value), S[k]? = some s → us[k]? = some u →
    (seenCells S us)[k * 3]? = some (.int .u64 (s.1 : Int)) ∧ (seenCells S us)[k * 3 + 1]? = some (.int .u64 (s.2.1 : Int)) ∧ (seenCells S us)[k * 3 + 2]? = some u
  | [], _, _, _, _, h, _ => by simp at h
  | _ :: _, [], _, _, _, _, h => by simp at h
  | s :: S, u :: us, 0, s', u', h, h' => by
    simp at h h'
    subst h h'
    exact ⟨rfl, rfl, rfl⟩
  | s :: S, u :: us, k + 1, s', u', h, h' => by
    have ih := seenCells_at S us k s' u' (by simpa using h) (by simpa using h')
    have e : seenCells (s :: S) (u :: us) = [.int .u64 (s.1 : Int), .int .u64 (s.2.1 : Int), u] ++ seenCells S us := rfl
    rw [e]
    refine ⟨?_, ?_, ?_⟩
    · rw [List.getElem?_append_right (by simp; omega), show (k + 1) * 3 - [Value.int .u64 (s.1 : Int), .int .u64 (s.2.1 : Int), u].length = k * 3 by simp; omega]; exact ih.1
    · rw [List.getElem?_append_right (by simp; omega), show (k + 1) * 3 + 1 - [Value.int .u64 (s.1 : Int), .int .u64 (s.2.1 : Int), u].length = k * 3 + 1 by simp; omega]; exact ih.2.1
    · rw [List.getElem?_append_right (by simp; omega), show (k + 1) * 3 + 2 - [Value.int .u64 (s.1 : Int), .int .u64 (s.2.1 : Int), u].length = k * 3 + 2 by simp; omega]; exact ih.2.2
/-- What a list of told nodes holds at place k. -/
theorem SeenB.at {w : World} {base : Nat} {v : Value} {S : List SeenN} (h : SeenB w base v S) (h0 : 0 < S.length) :
    ∃ g c, v = .slice (some ⟨g, 0, none⟩) S.length c ∧ S.length ≤ c ∧ ∀ k (hk : k < S.length), ∃ u, w.cell? ⟨g, k * 3, none⟩ = some (.int .u64 (S[k].1 : Int)) ∧ w.cell? ⟨g, k * 3 + 1, none⟩ = some (.int .u64 (S[k].2.1 : Int)) ∧ w.cell? ⟨g, k * 3 + 2, none⟩ = some u ∧ BytesT w u S[k].2.2 := by
  obtain ⟨us, hl, ho, hb⟩ := h
  rcases own_cases ho with ⟨h1, _⟩ | ⟨_, g, c, rfl, hc⟩
  · omega
  · refine ⟨g, c, rfl, hc, fun k hk => ⟨us[k], ?_, ?_, ?_, hb k _ _ (List.getElem?_eq_getElem (by omega)) (List.getElem?_eq_getElem hk)⟩⟩
    · rw [ho.cellAt (k * 3) (by omega)]; exact (seenCells_at S us k _ _ (List.getElem?_eq_getElem hk) (List.getElem?_eq_getElem (by omega))).1
    · rw [ho.cellAt (k * 3 + 1) (by omega)]; exact (seenCells_at S us k _ _ (List.getElem?_eq_getElem hk) (List.getElem?_eq_getElem (by omega))).2.1
    · rw [ho.cellAt (k * 3 + 2) (by omega)]; exact (seenCells_at S us k _ _ (List.getElem?_eq_getElem hk) (List.getElem?_eq_getElem (by omega))).2.2
end Go.Proofs.YtpdmmmcelkinjaaFmt
