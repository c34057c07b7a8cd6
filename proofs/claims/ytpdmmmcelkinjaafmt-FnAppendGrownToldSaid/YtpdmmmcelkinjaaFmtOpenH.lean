/- What a law's frame hands to its walk: a hash function, bytes, a list of hashes. -/
import Derived.Test.YtpdmmmcelkinjaaFmtHashes
import Derived.Test.YtpdmmmcelkinjaaFmtOpen
import Derived.Deep.Matrix
import Derived.Test.YtpdmmmcelkinjaaFmtTold
namespace Go.Proofs.YtpdmmmcelkinjaaFmt
open Go.ChangeShapes Go.WideShapes Go.ChangeAt Go.RowKit Go.Joins Go.Deep
set_option maxRecDepth 100000
theorem slot_noneH {w : World} {g o : Nat} {s : Option Nat} {v : Value} (h : w.cell? ((⟨g, o, s⟩ : Addr).add 0) = some v) : s = none := by
  simpa [Addr.add] using World.cell?_spot h
theorem add_plainH (g o k : Nat) : (⟨g, o, none⟩ : Addr).add k = ⟨g, o + k, none⟩ := by unfold Addr.add; split <;> simp_all
theorem bound_u32 {a : Int} (h : (Lit.int .u32 a).wf = true) : 0 ≤ a ∧ a < 4294967296 := by
  simp [Lit.wf, go_sem] at h
  have e1 : IntKind.u32.min = 0 := rfl
  have e2 : IntKind.u32.max = 4294967295 := rfl
  omega
theorem bound_u8 {a : Int} (h : (Lit.int .u8 a).wf = true) : 0 ≤ a ∧ a < 256 := by
  simp [Lit.wf, go_sem] at h
  have e1 : IntKind.u8.min = 0 := rfl
  have e2 : IntKind.u8.max = 255 := rfl
  omega
theorem cellsHash : Tryf.prog.cellsOf 24 = 3 := by kernel_rfl
theorem cellsBytes : Tryf.prog.cellsOf 28 = 1 := by kernel_rfl
theorem cellsByte : Tryf.prog.cellsOf 5 = 1 := by kernel_rfl
theorem openHash {H : Type} {enc : TypeId × Value → H} {w : World} {base : Nat} {b0 : Nat} {r : Reach} {spare : Nat → Bool} {held : Bool} {v : Value} {d : DataW H} {p : List MemPlace}
    (hv : Value.okWide Tryf.prog w r b0 24 v) (h : DataW.Trod enc Tryf.prog w base spare held 24 v d p) : ∃ h : Pl.HF, v = hashV h ∧ h.ok := by
  obtain ⟨v0, v1, v2, y0, y1, y2, n, rfl, rfl, rfl, hy0, hy1, hy2⟩ := open_agg3 Tryf.underlying24 (by kernel_rfl) cellsHash hv h
  obtain ⟨a, e0, rfl, wa⟩ := DataW.trod_int Tryf.underlying22 hy0
  obtain ⟨b, e1, rfl, wb⟩ := DataW.trod_int Tryf.underlying22 hy1
  obtain ⟨c, e2, rfl, wc⟩ := DataW.trod_int Tryf.underlying22 hy2
  simp at e0 e1 e2
  subst e0 e1 e2
  have h0 := bound_u32 wa
  have h1 := bound_u32 wb
  have h2 := bound_u32 wc
  obtain ⟨A, rfl⟩ := Int.eq_ofNat_of_zero_le h0.1
  obtain ⟨B, rfl⟩ := Int.eq_ofNat_of_zero_le h1.1
  obtain ⟨C, rfl⟩ := Int.eq_ofNat_of_zero_le h2.1
  exact ⟨⟨A, B, C⟩, rfl, by unfold Pl.HF.ok; simp only []; omega⟩
/-- Bytes out of what a frame's opener tells of their cells. -/
theorem bytes_of {w : World} {A : Option Addr} {L C : Nat} {Z : List Int} (hLC : L ≤ C) (hZ : Z.length = C ∨ Z.length = L) (hw : ∀ n ∈ Z, (Lit.int .u8 n).wf = true) (hA : A = none → C = 0) (hat : ∀ a, A = some a → ∀ c, c < L → w.cell? (a.add c) = some (.int .u8 (Z.getD c 0))) :
    BytesR w (.slice A L C) ((Z.take L).map Int.toNat) := by
  have hl : ((Z.take L).map Int.toNat).length = L := by simp; omega
  refine ⟨A, C, by rw [hl], by rw [hl]; exact hLC, fun x hx => ?_, fun h0 => ?_⟩
  · obtain ⟨z, hz, rfl⟩ := List.mem_map.1 hx
    have := bound_u8 (hw z (List.mem_of_mem_take hz))
    omega
  · rw [hl] at h0
    cases A with
    | none => have := hA rfl; omega
    | some a =>
      obtain ⟨g, o, s⟩ := a
      obtain rfl := slot_noneH (hat _ rfl 0 h0)
      refine ⟨g, o, rfl, fun k hk => ?_⟩
      rw [hl] at hk
      have h1 := hat _ rfl k hk
      rw [add_plainH] at h1
      rw [h1]
      have hk2 : k < Z.length := by omega
      have h2 := bound_u8 (hw Z[k] (List.getElem_mem hk2))
      simp [List.getD_eq_getElem?_getD, List.getElem?_eq_getElem hk2]
      omega
theorem openBytes {H : Type} {enc : TypeId × Value → H} {w : World} {base : Nat} {b0 : Nat} {r : Reach} {held : Bool} {v : Value} {d : DataW H} {p : List MemPlace}
    (hv : Value.okWide Tryf.prog w r b0 28 v) (h : DataW.Trod enc Tryf.prog w base (fun _ => true) held 28 v d p) : ∃ l, BytesR w v l := by
  obtain ⟨a0, l0, c0, rfl⟩ := okWide_slice Tryf.underlying28 hv
  obtain ⟨fuel, hf⟩ := h
  rcases open_ints Tryf.underlying28 Tryf.underlying5 cellsByte hf with ⟨hcs, _⟩ | ⟨a, len, cap, zs, hcs, hb, hl, hm, hz, hx, hat, hw⟩
  · simp [Value.cells] at hcs
    obtain ⟨rfl, rfl, rfl⟩ := hcs
    exact ⟨[], none, 0, rfl, Nat.le_refl _, fun x hx => by simp at hx, fun h => by simp at h⟩
  · simp [Value.cells] at hcs
    obtain ⟨rfl, rfl, rfl⟩ := hcs
    simp only [if_true] at hz
    exact ⟨_, bytes_of hl (.inl hz) hw (fun e => by cases e) (fun a' e c hc => by injection e with e; subst e; exact hat c (by omega))⟩
theorem openHashes {H : Type} {enc : TypeId × Value → H} {w : World} {base : Nat} {b0 : Nat} {r : Reach} {held : Bool} {v : Value} {d : DataW H} {p : List MemPlace}
    (hv : Value.okWide Tryf.prog w r b0 25 v) (h : DataW.Trod enc Tryf.prog w base (fun _ => true) held 25 v d p) : ∃ L, HashesR w v L := by
  obtain ⟨a0, l0, c0, rfl⟩ := okWide_slice Tryf.underlying25 hv
  obtain ⟨fuel, hf⟩ := h
  rcases open_int_rows Tryf.underlying25 Tryf.underlying28 Tryf.underlying5 cellsBytes cellsByte hf with ⟨hcs, _⟩ | ⟨a, len, cap, A, L, C, Z, hcs, hb, hl, hm, _, hat⟩
  · simp [Value.cells] at hcs
    obtain ⟨rfl, rfl, rfl⟩ := hcs
    exact ⟨[], none, 0, rfl, Nat.le_refl _, fun x hx => by simp at hx, fun h => by simp at h⟩
  · simp [Value.cells] at hcs
    obtain ⟨rfl, rfl, rfl⟩ := hcs
    have each : ∀ k, k < l0 → w.cell? (a.add k) = some (.slice (A k) (L k) (C k)) ∧ BytesR w (.slice (A k) (L k) (C k)) (((Z k).take (L k)).map Int.toNat) := fun k hk => by
      obtain ⟨h1, h2, h3, h4, h5, h6, h7⟩ := hat k (by omega)
      exact ⟨h1, bytes_of h2 (.inl h4) h5 h6 (fun a' e c hc => (h7 a' e).2 c (by omega))⟩
    have hlen : ((List.range l0).map fun k => ((Z k).take (L k)).map Int.toNat).length = l0 := by simp
    refine ⟨(List.range l0).map fun k => ((Z k).take (L k)).map Int.toNat, some a, c0, by rw [hlen], by rw [hlen]; exact hl, fun x hx => ?_, fun h0 => ?_⟩
    · obtain ⟨k, hk, rfl⟩ := List.mem_map.1 hx
      exact (each k (List.mem_range.1 hk)).2.bytes
    · rw [hlen] at h0
      obtain ⟨g, o, s⟩ := a
      obtain rfl := slot_noneH (each 0 h0).1
      refine ⟨g, o, rfl, fun k hk => ?_⟩
      rw [hlen] at hk
      have h1 := each k hk
      rw [add_plainH] at h1
      exact ⟨_, h1.1, by simpa using h1.2⟩
end Go.Proofs.YtpdmmmcelkinjaaFmt
/- The rows that list both the table of math/bits and errors.errorType: a world that holds them. -/
namespace Go.Proofs.YtpdmmmcelkinjaaFmt
open Go.ChangeShapes Go.WideShapes Go.ChangeAt Go.RowKit

theorem bound_i64 {a : Int} (h : (Lit.int .i64 a).wf = true) : -9223372036854775808 ≤ a ∧ a ≤ 9223372036854775807 := by
  simp [Lit.wf, go_sem] at h
  have e1 : IntKind.i64.min = -9223372036854775808 := rfl
  have e2 : IntKind.i64.max = 9223372036854775807 := rfl
  omega
end Go.Proofs.YtpdmmmcelkinjaaFmt
