/- proof.RootFromInclusionProof, where the proof has the right length. -/
import Derived.Test.YtpdmmmcelkinjaaFmtHashes
import Derived.Test.YtpdmmmcelkinjaaFmtMth
namespace Go.Proofs.YtpdmmmcelkinjaaFmt
open Go.ChangeShapes Go.WideShapes Go.ChangeAt Go.RowKit
set_option maxRecDepth 20000
theorem inn_le {i s : Nat} (hi : i < s) (hs : s < 18446744073709551616) : Pl.inn i s ≤ 64 := by
  unfold Pl.inn
  exact Pl.blen_le (Nat.xor_lt_two_pow (n := 64) (by omega) (by omega))
theorem elemHashes : Tryf.prog.elem 25 = 28 := by kernel_rfl
theorem sizeBytes (w : World) : (sizeOf 28).run Tryf.prog w = .ok 1 w := by
  have h : (Tryf.prog.info? 28).map (fun i => (i.zero, i.size, i.bytes)) = some (some (.slice none 0 0), 1, 24) := by kernel_rfl
  obtain ⟨i0, hi, hz0, hz1, hz2⟩ := info_parts h
  simp [sizeOf, typeInfo, hi, hz1]
theorem add_plain3 (g o k : Nat) : (⟨g, o, none⟩ : Addr).add k = ⟨g, o + k, none⟩ := by unfold Addr.add; split <;> simp_all
theorem hashes_head (A : Option Addr) (n cap k : Nat) (h : k ≤ cap) (W : World) :
    (Instr.slice 25 (.slice A n cap) none (some (.int .i64 (k : Int))) none).run Tryf.prog W = .ok (.slice (if cap = 0 then A else A.map (·.add 0)) k cap) W := by
  rw [run_slice_h W 25 _ _ _ (by rw [elemHashes]; exact Tryf.underlying25) .i64 (k : Int) (by omega) (by omega), elemHashes, sizeBytes]
  rfl
theorem hashes_tail (A : Option Addr) (n cap k : Nat) (h : k ≤ n) (W : World) :
    (Instr.slice 25 (.slice A n cap) (some (.int .i64 (k : Int))) none none).run Tryf.prog W = .ok (.slice (if cap = k then A else A.map (·.add (k * 1))) (n - k) (cap - k)) W := by
  rw [run_slice_l W 25 _ _ _ (by rw [elemHashes]; exact Tryf.underlying25) .i64 (k : Int) (by omega) (by omega), elemHashes, sizeBytes]
  rfl
theorem HashesR.head {w : World} {A : Option Addr} {n cap k : Nat} {L : List (List Nat)} (h : HashesR w (.slice A n cap) L) (hk : k ≤ L.length) :
    HashesR w (.slice (if cap = 0 then A else A.map (·.add 0)) k cap) (L.take k) := by
  obtain ⟨A', cap', e, hc, hy, hat⟩ := h
  injection e with e1 e2 e3
  subst e1 e2 e3
  have hl : (L.take k).length = k := by simp; omega
  refine ⟨_, _, by rw [hl], by rw [hl]; omega, fun x hx => hy x (List.mem_of_mem_take hx), fun hp => ?_⟩
  rw [hl] at hp
  obtain ⟨g, o, rfl, h⟩ := hat (by omega)
  rw [if_neg (by omega)]
  refine ⟨g, o, by simp [add_plain3], fun j hj => ?_⟩
  rw [hl] at hj
  have := h j (by omega)
  simpa using this
theorem HashesR.tail {w : World} {A : Option Addr} {n cap k : Nat} {L : List (List Nat)} (h : HashesR w (.slice A n cap) L) (hk : k ≤ L.length) :
    HashesR w (.slice (if cap = k then A else A.map (·.add (k * 1))) (n - k) (cap - k)) (L.drop k) := by
  obtain ⟨A', cap', e, hc, hy, hat⟩ := h
  injection e with e1 e2 e3
  subst e1 e2 e3
  have hl : (L.drop k).length = L.length - k := by simp
  refine ⟨_, _, by rw [hl], by rw [hl]; omega, fun x hx => hy x (List.mem_of_mem_drop hx), fun hp => ?_⟩
  rw [hl] at hp
  obtain ⟨g, o, rfl, h⟩ := hat (by omega)
  rw [if_neg (by omega)]
  refine ⟨g, o + k, by simp [add_plain3], fun j hj => ?_⟩
  rw [hl] at hj
  have := h (k + j) (by omega)
  rw [show o + k + j = o + (k + j) by omega]
  simpa using this
/-- Bytes and no error. -/
def RetBytesT (w : World) (l : List Nat) (e : Ending) (w' : World) : Prop := ∃ v, e = .returned (.tuple #[v, .nilIface]) ∧ BytesR w' v l ∧ Below w.heap.size w w'
end Go.Proofs.YtpdmmmcelkinjaaFmt
