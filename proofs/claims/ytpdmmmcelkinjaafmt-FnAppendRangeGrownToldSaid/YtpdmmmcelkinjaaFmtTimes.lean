/- laws.times: how often a node with its hash stands in a list. -/
import Derived.Test.YtpdmmmcelkinjaaFmtKeep
import Derived.Test.YtpdmmmcelkinjaaFmtAppend
namespace Go.Proofs.YtpdmmmcelkinjaaFmt
open Go.ChangeShapes Go.WideShapes Go.ChangeAt Go.RowKit
set_option maxRecDepth 100000
theorem seen_count (S : List SeenN) (x : SeenN) (k : Nat) (hk : k < S.length) : (S.take (k + 1)).count x = (S.take k).count x + if S[k] = x then 1 else 0 := by
  rw [take_snoc S k hk, List.count_append, List.count_singleton]
  by_cases h : S[k] = x
  · simp [h]
  · simp [h]
set_option maxHeartbeats 4000000 in
theorem times_c (S : List SeenN) (v : Value) (base l i : Nat) (Aw : Option Addr) (nw cw : Nat) (hh : List Nat) (w : World) (hS : SeenB w base v S) (hw : BytesR w (.slice Aw nw cw) hh) (hn : S.length ≤ 1000000) :
    Calls Tryf.prog 24 #[v, .agg #[.int .u64 (l : Int), .int .u64 (i : Int), .slice Aw nw cw]] w fun e w' => e = .returned (.int .i64 (S.count (l, i, hh) : Int)) ∧ Below w.heap.size w w' := by
  obtain ⟨A0, c0, rfl⟩ : ∃ A c, v = .slice A S.length c := by
    obtain ⟨us, _, ho, _⟩ := hS
    obtain ⟨A, c, e, _⟩ := own_slice ho
    exact ⟨A, c, e⟩
  have HS := Lib.hid hS
  have HW := Lib.hid hw
  have HY := Lib.hid hw.bytes
  have B0 : Below w.heap.size w (w.alloc (.cells #[.int .u64 (l : Int), .int .u64 (i : Int), .slice Aw nw cw] 47)) := (Below.refl _ _).alloc (Nat.le_refl _) _
  have HB0 := Lib.hid B0
  have HK0 := Lib.hid (Blk.new w 47 #[.int .u64 (l : Int), .int .u64 (i : Int), .slice Aw nw cw])
  clear hS hw B0
  go_enter Tryf.func24, Tryf.ntmps24
  go_wp2_with fail
  generalize w.alloc (.cells #[.int .u64 (l : Int), .int .u64 (i : Int), .slice Aw nw cw] 47) = W0 at *
  go_loopw [5, 7, 10] (fun nv _ kv wr => ∃ k f : Nat, k ≤ S.length ∧ f ≤ k ∧ Hid (f = (S.take k).count (l, i, hh)) ∧ nv = .int .i64 (f : Int) ∧ kv = .int .i64 (k : Int) ∧ Below W0.heap.size W0 wr) (fun _ _ kv _ => S.length - (intOf kv).toNat)
  case atStart => exact ⟨0, 0, Nat.zero_le _, Nat.zero_le _, Lib.hid (by simp), rfl, rfl, Below.refl _ _⟩
  case round =>
    obtain ⟨k, f, hk, hf, HF, rfl, rfl, hB⟩ := hrel
    by_cases hkl : k < S.length
    · obtain ⟨gS, cS, eA, hcS, hat⟩ := HS.out.at (by omega)
      injection eA with eA1 eA2 eA3
      subst eA1 eA3
      clear eA2
      obtain ⟨uk, d0, d1, d2, b2⟩ := hat k hkl
      obtain ⟨Au, nu, cu, rfl⟩ : ∃ A n c, uk = .slice A n c := by obtain ⟨A, c, e, _⟩ := b2.1; exact ⟨A, _, c, e⟩
      have BW := HB0.out.trans (hB.mono HB0.out.size)
      have d0 := (BW.cell (World.block_lt_of_cell? w _ d0)).trans d0
      have d1 := (BW.cell (World.block_lt_of_cell? w _ d1)).trans d1
      have d2 := (BW.cell (World.block_lt_of_cell? w _ d2)).trans d2
      have HCT := Lib.hid (seen_count S (l, i, hh) k hkl)
      rw [← HF.out] at HCT
      have hy := b2.1.bytes
      have hE : S[k] = (S[k].1, S[k].2.1, S[k].2.2) := rfl
      rw [hE] at HCT
      clear hat hE
      generalize S[k].1 = lk at *
      generalize S[k].2.1 = ik at *
      generalize S[k].2.2 = hs at *
      have BN : Below wr.heap.size wr (wr.alloc (.cells #[.int .u64 (lk : Int), .int .u64 (ik : Int), .slice Au nu cu] 47)) := (Below.refl _ _).alloc (Nat.le_refl _) _
      have s1 := ((b2.1.below BW).below BN).str
      have s2 := ((HW.out.below BW).below BN).str
      have KB := (HK0.out.below' hB).below' BN
      have y0 := KB.cell 0
      have y1 := KB.cell 1
      have y2 := KB.cell 2
      have hfin : Below W0.heap.size W0 (wr.alloc (.cells #[.int .u64 (lk : Int), .int .u64 (ik : Int), .slice Au nu cu] 47)) := hB.trans (BN.mono hB.size)
      have HFIN := Lib.hid hfin
      have HBY := Lib.hid hy
      have zr : w.heap.size < wr.heap.size := Nat.lt_of_lt_of_le HK0.out.lt hB.size
      have hk1 : (k : Int) < (S.length : Int) := by omega
      have hk0 : (0 : Int) ≤ (k : Int) := by omega
      clear b2 BW BN KB hfin hy
      by_cases h1 : lk = l
      · subst h1
        by_cases h2 : ik = i
        · subst h2
          by_cases h3 : hs = hh
          · subst h3
            rw [if_pos rfl] at HCT
            clear HF
            go_wp2_with fail
            go_roundw
            case rel => exact ⟨k + 1, f + 1, by omega, by omega, Lib.hid HCT.out.symm, by go_num, by go_num, HFIN.out⟩
            case measure => simp [intOf] <;> omega
          · rw [if_neg (by simpa using h3)] at HCT
            have hne : ¬ (bs hs).toList = (bs hh).toList := fun h => h3 (bs_inj HBY.out HY.out (by
              rw [ByteArray.toList_eq, ByteArray.toList_eq] at h
              cases hl : bs hs with | mk a => cases hm : bs hh with | mk b => rw [hl, hm] at h; cases a; cases b; simp at h; subst h; rfl))
            have hn2 : ((bs hs).toList == (bs hh).toList) = false := by simpa using hne
            clear HF h3 hne
            go_wp2_with fail
            go_roundw
            case rel => exact ⟨k + 1, f, by omega, by omega, Lib.hid HCT.out.symm, rfl, by go_num, HFIN.out⟩
            case measure => simp [intOf] <;> omega
        · rw [if_neg (by simp [h2])] at HCT
          have hne : ¬ ((ik : Int) = (i : Int)) := by omega
          clear HF h2
          go_wp2_with fail
          go_roundw
          case rel => exact ⟨k + 1, f, by omega, by omega, Lib.hid HCT.out.symm, rfl, by go_num, HFIN.out⟩
          case measure => simp [intOf] <;> omega
      · rw [if_neg (by simp [h1])] at HCT
        have hne : ¬ ((lk : Int) = (l : Int)) := by omega
        clear HF h1
        go_wp2_with fail
        go_roundw
        case rel => exact ⟨k + 1, f, by omega, by omega, Lib.hid HCT.out.symm, rfl, by go_num, HFIN.out⟩
        case measure => simp [intOf] <;> omega
    · have hk1 : ¬ (k : Int) < (S.length : Int) := by omega
      obtain rfl : k = S.length := by omega
      rw [List.take_length] at HF
      have BW := HB0.out.trans (hB.mono HB0.out.size)
      clear hkl
      go_wp2_with fail
      go_ret
      exact ⟨by rw [← HF.out]; rfl, BW⟩
end Go.Proofs.YtpdmmmcelkinjaaFmt
