/- Lists of hashes as they lie in memory; the chains of hashes of the proofs. -/
import Derived.Test.YtobnmgnnidhfkaaFmtHash
import Derived.Test.YtobnmgnnidhfkaaFmtMth
import Derived.Test.YtobnmgnnidhfkaaFmtBlk
import Derived.Lib.Hide
import Derived.IntWalk
namespace Go.Proofs.YtobnmgnnidhfkaaFmt
open Go.ChangeShapes Go.WideShapes Go.ChangeAt Go.RowKit
set_option maxRecDepth 20000
theorem BytesR.form {w : World} {v : Value} {l : List Nat} (h : BytesR w v l) : ∃ A n c, v = .slice A n c := by obtain ⟨A, c, rfl, _⟩ := h; exact ⟨A, _, c, rfl⟩
/-- A slice in which these hashes lie. -/
def HashesR (w : World) (v : Value) (L : List (List Nat)) : Prop :=
  ∃ A cap, v = .slice A L.length cap ∧ L.length ≤ cap ∧ (∀ x ∈ L, Pl.Bytes x) ∧ (0 < L.length → ∃ g o, A = some ⟨g, o, none⟩ ∧ ∀ k (h : k < L.length), ∃ u, w.cell? ⟨g, o + k, none⟩ = some u ∧ BytesR w u L[k])
theorem HashesR.below {w w' : World} {v : Value} {L : List (List Nat)} (h : HashesR w v L) (hb : Below w.heap.size w w') : HashesR w' v L := by
  obtain ⟨A, cap, rfl, hc, hy, h⟩ := h
  refine ⟨A, cap, rfl, hc, hy, fun hl => ?_⟩
  obtain ⟨g, o, rfl, h'⟩ := h hl
  exact ⟨g, o, rfl, fun k hk => by
    obtain ⟨u, hu, hbr⟩ := h' k hk
    exact ⟨u, (hb.cell (World.block_lt_of_cell? w _ hu)).trans hu, hbr.below hb⟩⟩
/-- The hash function as the interface's value. -/
def hasherV (h : Pl.HF) : Value := .iface 24 (hashV h)
theorem method_children (h : Pl.HF) (w : World) : (Go.method 289 24 (hashV h) "HashChildren").run Tryf.prog w = .ok (30, hashV h) w := by kernel_rfl
set_option maxHeartbeats 1000000 in
theorem border_c (h : Pl.HF) (ok : h.ok) (v s : Value) (sl : List Nat) (L : List (List Nat)) (w : World) (hs : BytesR w s sl) (hv : HashesR w v L) (hL : L.length ≤ 1000) :
    Calls Tryf.prog 36 #[hasherV h, s, v] w (RetBytes w (Pl.chain h sl ((List.replicate L.length true).zip L))) := by
  obtain ⟨A, cap, rfl, hcap, hy, hat⟩ := hv
  have HK := Lib.hid ok
  have HS := Lib.hid hs
  have HY := Lib.hid hy
  obtain ⟨As, cs, rfl, _⟩ := id hs
  have hm := method_children h
  unfold hasherV
  clear ok hs hy
  go_enter Tryf.func36, Tryf.ntmps36
  go_wp2_with fail
  go_loopw [1, 11] (fun sv kv wr => ∃ (k : Nat) (As : Option Addr) (ns cs : Nat), k ≤ L.length ∧ sv = .slice As ns cs ∧ kv = .int .i64 k ∧ Hid (BytesR wr (.slice As ns cs) (Pl.chain h sl ((List.replicate k true).zip (L.take k)))) ∧ Below w.heap.size w wr) (fun _ kv _ => L.length - (intOf kv).toNat)
  case atStart => exact ⟨0, As, _, cs, Nat.zero_le _, rfl, rfl, Lib.hid HS.out, Below.refl _ _⟩
  case round =>
    obtain ⟨k, A1, n1, c1, hk, rfl, rfl, HB, hB⟩ := hrel
    by_cases hkl : k < L.length
    · obtain ⟨g, o, rfl, hc⟩ := hat (by omega)
      obtain ⟨u, hu, hbr⟩ := hc k hkl
      have hu' := (hB.cell (World.block_lt_of_cell? w _ hu)).trans hu
      have hbr' := Lib.hid (hbr.below hB)
      obtain ⟨A2, c2, rfl, _⟩ := id hbr
      have hk1 : (k : Int) < (L.length : Int) := by omega
      have hk0 : (0 : Int) ≤ (k : Int) := by omega
      clear hc hat hbr hu
      go_wp2_with fail
      refine (children_c h HK.out _ _ _ _ _ hbr'.out HB.out).mono ?_
      rintro e w2 ⟨v2, rfl, hv2, hb2⟩
      obtain ⟨A3, n3, c3, rfl⟩ := hv2.form
      have HN := Lib.hid (Eq.subst (motive := fun z => BytesR w2 (.slice A3 n3 c3) z) (Pl.chain_border (h := h) (s := sl) k hkl).symm hv2)
      clear hv2 HB hbr'
      go_wp2_with fail
      go_roundw
      case rel => exact ⟨k + 1, A3, n3, c3, by omega, rfl, by go_num, HN, hB.trans (hb2.mono hB.size)⟩
      case measure => simp [intOf] <;> omega
    · have hk1 : ¬ (k : Int) < (L.length : Int) := by omega
      obtain rfl : k = L.length := by omega
      rw [List.take_length] at HB
      clear hat
      go_wp2_with fail
      go_ret
      exact ⟨_, rfl, HB.out, hB⟩
set_option maxHeartbeats 1000000 in
theorem inner_c (h : Pl.HF) (ok : h.ok) (v s : Value) (sl : List Nat) (L : List (List Nat)) (i : Nat) (hi : i < 18446744073709551616) (w : World) (hs : BytesR w s sl) (hv : HashesR w v L) (hL : L.length ≤ 64) :
    Calls Tryf.prog 35 #[hasherV h, s, v, .int .u64 (i : Int)] w (RetBytes w (Pl.chain h sl ((Pl.lowbits L.length i).zip L))) := by
  obtain ⟨A, cap, rfl, hcap, hy, hat⟩ := hv
  have HK := Lib.hid ok
  have HS := Lib.hid hs
  have HI := Lib.hid hi
  obtain ⟨As, cs, rfl, _⟩ := id hs
  have hm := method_children h
  unfold hasherV
  clear ok hs hy hi
  go_enter Tryf.func35, Tryf.ntmps35
  go_wp2_with fail
  go_loopw [1, 13] (fun sv kv wr => ∃ (k : Nat) (As : Option Addr) (ns cs : Nat), k ≤ L.length ∧ sv = .slice As ns cs ∧ kv = .int .i64 k ∧ Hid (BytesR wr (.slice As ns cs) (Pl.chain h sl ((Pl.lowbits k i).zip (L.take k)))) ∧ Below w.heap.size w wr) (fun _ kv _ => L.length - (intOf kv).toNat)
  case atStart => exact ⟨0, As, _, cs, Nat.zero_le _, rfl, rfl, Lib.hid HS.out, Below.refl _ _⟩
  case round =>
    obtain ⟨k, A1, n1, c1, hk, rfl, rfl, HB, hB⟩ := hrel
    by_cases hkl : k < L.length
    · obtain ⟨g, o, rfl, hc⟩ := hat (by omega)
      obtain ⟨u, hu, hbr⟩ := hc k hkl
      have hu' := (hB.cell (World.block_lt_of_cell? w _ hu)).trans hu
      have hbr' := Lib.hid (hbr.below hB)
      obtain ⟨A2, c2, rfl, _⟩ := id hbr
      have hk1 : (k : Int) < (L.length : Int) := by omega
      have hk0 : (0 : Int) ≤ (k : Int) := by omega
      have HCh := Lib.hid (Pl.chain_inner (h := h) (s := sl) i k hkl)
      have e1 : (i : Int) / 2 ^ k = ((i / 2 ^ k : Nat) : Int) := by simp
      have hq : i / 2 ^ k < 18446744073709551616 := Nat.lt_of_le_of_lt (Nat.div_le_self _ _) HI.out
      generalize i / 2 ^ k = q at e1 hq HCh
      have e2 : bits .and .u64 (q : Int) 1 = ((q % 2 : Nat) : Int) := by rw [← Nat.and_one_is_mod]; exact and_n q 1 hq (by decide)
      have e3 : IntKind.u64.wrap (k : Int) = (k : Int) := wrapN k (by omega)
      have hmk : min k 64 = k := by omega
      clear hc hat hbr hu hq
      rcases Nat.mod_two_eq_zero_or_one q with hb | hb
      · rw [hb] at e2
        rw [if_neg (by omega)] at HCh
        clear hb
        go_wp2_with fail
        refine (children_c h HK.out _ _ _ _ _ HB.out hbr'.out).mono ?_
        rintro e w2 ⟨v2, rfl, hv2, hb2⟩
        obtain ⟨A3, n3, c3, rfl⟩ := hv2.form
        have HN := Lib.hid (Eq.subst (motive := fun z => BytesR w2 (.slice A3 n3 c3) z) HCh.out.symm hv2)
        clear hv2 HB hbr' HCh
        go_wp2_with fail
        go_roundw
        case rel => exact ⟨k + 1, A3, n3, c3, by omega, rfl, by go_num, HN, hB.trans (hb2.mono hB.size)⟩
        case measure => simp [intOf] <;> omega
      · rw [hb] at e2
        rw [if_pos hb] at HCh
        clear hb
        go_wp2_with fail
        refine (children_c h HK.out _ _ _ _ _ hbr'.out HB.out).mono ?_
        rintro e w2 ⟨v2, rfl, hv2, hb2⟩
        obtain ⟨A3, n3, c3, rfl⟩ := hv2.form
        have HN := Lib.hid (Eq.subst (motive := fun z => BytesR w2 (.slice A3 n3 c3) z) HCh.out.symm hv2)
        clear hv2 HB hbr' HCh
        go_wp2_with fail
        go_roundw
        case rel => exact ⟨k + 1, A3, n3, c3, by omega, rfl, by go_num, HN, hB.trans (hb2.mono hB.size)⟩
        case measure => simp [intOf] <;> omega
    · have hk1 : ¬ (k : Int) < (L.length : Int) := by omega
      obtain rfl : k = L.length := by omega
      rw [List.take_length] at HB
      clear hat
      go_wp2_with fail
      go_ret
      exact ⟨_, rfl, HB.out, hB⟩
end Go.Proofs.YtobnmgnnidhfkaaFmt
