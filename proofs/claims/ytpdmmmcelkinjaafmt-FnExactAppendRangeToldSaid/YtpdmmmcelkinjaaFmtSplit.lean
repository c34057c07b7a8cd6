/- spec.Split, spec.PathLength, spec.ProofLength. -/
import Derived.Test.YtpdmmmcelkinjaaFmtBits
import Derived.Test.YtpdmmmcelkinjaaFmtMth
import Derived.WalkKit
import Derived.Outline
import Derived.Lib.Hide
namespace Go.Proofs.YtpdmmmcelkinjaaFmt
open Go.ChangeShapes Go.WideShapes Go.ChangeAt Go.RowKit
theorem split_c (n : Nat) (hn : 2 ≤ n) (h : n < 18446744073709551616) (w : World) :
    Calls Tryf.prog 31 #[.int .u64 (n : Int)] w fun e w' => e = .returned (.int .u64 ((Pl.split n : Nat) : Int)) ∧ w = w' := by
  obtain ⟨s1, s2⟩ := Pl.split_spec hn
  have HS : Hid (Pl.split n = 2 ^ Pl.slog n) := Lib.hid rfl
  generalize Pl.split n = sp at *
  go_enter Tryf.func31, Tryf.ntmps31
  go_wp2_with fail
  go_loop [3] (fun kv => ∃ k j : Nat, Hid (k = 2 ^ j ∧ j ≤ Pl.slog n) ∧ k ≤ sp ∧ 0 < k ∧ kv = .int .u64 (k : Int)) (fun kv => n - (intOf kv).toNat)
  case atStart => exact ⟨1, 0, Lib.hid ⟨rfl, Nat.zero_le _⟩, by omega, by omega, rfl⟩
  case round =>
    obtain ⟨k, j, HK, hk, hk0, rfl⟩ := hrel
    have e1 : IntKind.u64.wrap ((n : Int) - (k : Int)) = (n : Int) - (k : Int) := by rw [IntKind.wrap_u64]; omega
    by_cases hlt : k + k < n
    · have hj : j + 1 ≤ Pl.slog n := by
        rcases Nat.lt_or_ge j (Pl.slog n) with h | h
        · exact h
        · exfalso
          have h3 : 2 ^ Pl.slog n ≤ 2 ^ j := Nat.pow_le_pow_right (by decide) h
          have := HK.out.1
          have := HS.out
          omega
      have HN : Hid (k * 2 = 2 ^ (j + 1) ∧ j + 1 ≤ Pl.slog n) := Lib.hid ⟨by rw [HK.out.1, Nat.pow_succ], hj⟩
      have hk2 : k * 2 ≤ sp := by rw [HN.out.1, HS.out]; exact Nat.pow_le_pow_right (by decide) hj
      have t1 : (k : Int) < (n : Int) - (k : Int) := by omega
      have e2 : IntKind.u64.wrap ((k : Int) * 2) = ((k * 2 : Nat) : Int) := by rw [IntKind.wrap_u64]; omega
      go_wp2_with fail
      go_round
      case rel => exact ⟨k * 2, j + 1, HN, hk2, by omega, by go_num⟩
      case measure => simp [intOf]; omega
    · have t1 : ¬ (k : Int) < (n : Int) - (k : Int) := by omega
      have hfin : k = sp := by
        have hj := HK.out
        rw [HS.out, hj.1]
        rcases Nat.lt_or_ge j (Pl.slog n) with h | h
        · exfalso
          have h3 : 2 ^ (j + 1) ≤ 2 ^ Pl.slog n := Nat.pow_le_pow_right (by decide) h
          have h4 := HS.out
          rw [Nat.pow_succ] at h3
          omega
        · rw [show j = Pl.slog n by omega]
      have HF := Lib.hid hfin
      clear hfin
      go_wp2_with fail
      go_ret
      exact ⟨by rw [HF.out]; rfl, rfl⟩
namespace Pl
theorem sibAt_len (k i e : Nat) : (sibAt k i e).length ≤ 1 := by
  unfold sibAt
  split
  · simp
  · split <;> simp
theorem upS_len : ∀ f k i e : Nat, (upS f k i e).length ≤ f
  | 0, _, _, _ => by simp [upS]
  | f + 1, k, i, e => by
    have := sibAt_len k i e
    have := upS_len f (k + 1) (i / 2) e
    rw [upS, List.length_append]; omega
theorem dirs_le {i s : Nat} (h : i < s) (hs : s < 18446744073709551616) : (dirs i s).length ≤ 64 := by
  rw [← sides_length i s 0, sides_up 64 0 i s (by decide) h (by omega)]
  exact upS_len _ _ _ _
theorem cproof_len (m n : Nat) : ∀ (a : Nat) (wh : Bool), (cproof a m n wh).length = (cproof 0 m n wh).length := by
  induction n using Nat.strongRecOn generalizing m with
  | ind n ih =>
    intro a wh
    by_cases he : m = n
    · subst he; rw [cproof_eq, cproof_eq]; cases wh <;> rfl
    · by_cases hn : 2 ≤ n
      · have s := split_spec hn
        have s3 := split_pos n
        by_cases hi : m ≤ split n
        · rw [cproof_l he hn hi, cproof_l he hn hi, List.length_append, List.length_append, ih _ s.1]; rfl
        · rw [cproof_r he hn hi, cproof_r he hn hi, List.length_append, List.length_append, ih _ (by omega), ih _ (by omega) _ (0 + split n)]; rfl
      · rw [cproof, if_neg he, dif_pos (by omega), cproof, if_neg he, dif_pos (by omega)]
end Pl
end Go.Proofs.YtpdmmmcelkinjaaFmt
