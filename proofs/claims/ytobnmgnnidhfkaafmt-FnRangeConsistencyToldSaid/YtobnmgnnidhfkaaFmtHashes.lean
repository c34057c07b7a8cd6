/- Lists of hashes as they lie in memory; the chains of hashes of the proofs. -/
import Derived.Test.YtobnmgnnidhfkaaFmtHash
import Derived.Test.YtobnmgnnidhfkaaFmtMth
import Derived.Test.YtobnmgnnidhfkaaFmtNode
import Derived.Lib.Hide
import Derived.IntWalk
import Derived.Laws.BytesArg
namespace Go.Proofs.YtobnmgnnidhfkaaFmt
open Go.ChangeShapes Go.WideShapes Go.ChangeAt Go.RowKit
set_option maxRecDepth 20000
theorem BytesR.form {w : World} {v : Value} {l : List Nat} (h : BytesR w v l) : ∃ A n c, v = .slice A n c := by obtain ⟨A, c, rfl, _⟩ := h; exact ⟨A, _, c, rfl⟩
/-- A slice in which these hashes lie. -/
def HashesR (w : World) (v : Value) (L : List (List Nat)) : Prop :=
  ∃ A cap, v = .slice A L.length cap ∧ L.length ≤ cap ∧ (∀ x ∈ L, Pl.Bytes x) ∧ (0 < L.length → ∃ g o, A = some ⟨g, o, none⟩ ∧ ∀ k (h : k < L.length), ∃ u, w.cell? ⟨g, o + k, none⟩ = some u ∧ BytesR w u L[k])
theorem HashesR.below {w w' : World} {v : Value} {L : List (List Nat)} (h : HashesR w v L) (hb : Below w.heap.size w w') : HashesR w' v L := by
  obtain ⟨A, cap, rfl, hc, hy, h⟩ := h
  refine ⟨A, cap, rfl, hc, hy, fun hl => ?_⟩
  obtain ⟨g, o, rfl, h'⟩ := h hl
  exact ⟨g, o, rfl, fun k hk => by
    obtain ⟨u, hu, hbr⟩ := h' k hk
    exact ⟨u, (hb.cell (World.block_lt_of_cell? w _ hu)).trans hu, hbr.below hb⟩⟩
/-- The hash function as the interface's value. -/
def hasherV (h : Pl.HF) : Value := .iface 24 (hashV h)
theorem method_children (h : Pl.HF) (w : World) : (Go.method 289 24 (hashV h) "HashChildren").run Tryf.prog w = .ok (30, hashV h) w := by kernel_rfl
set_option maxHeartbeats 1000000 in
theorem border_c (h : Pl.HF) (ok : h.ok) (v s : Value) (sl : List Nat) (L : List (List Nat)) (w : World) (hs : BytesR w s sl) (hv : HashesR w v L) (hL : L.length ≤ 1000) :
    Calls Tryf.prog 36 #[hasherV h, s, v] w (RetBytes w (Pl.chain h sl ((List.replicate L.length true).zip L))) := by
  obtain ⟨A, cap, rfl, hcap, hy, hat⟩ := hv
  have HK := Lib.hid ok
  have HS := Lib.hid hs
  have HY := Lib.hid hy
  obtain ⟨As, cs, rfl, _⟩ := id hs
  have hm := method_children h
  unfold hasherV
  clear ok hs hy
  go_enter Tryf.func36, Tryf.ntmps36
  go_wp2_with fail
  go_loopw [1, 11] (fun sv kv wr => ∃ (k : Nat) (As : Option Addr) (ns cs : Nat), k ≤ L.length ∧ sv = .slice As ns cs ∧ kv = .int .i64 k ∧ Hid (BytesR wr (.slice As ns cs) (Pl.chain h sl ((List.replicate k true).zip (L.take k)))) ∧ Below w.heap.size w wr) (fun _ kv _ => L.length - (intOf kv).toNat)
  case atStart => exact ⟨0, As, _, cs, Nat.zero_le _, rfl, rfl, Lib.hid HS.out, Below.refl _ _⟩
  case round =>
    obtain ⟨k, A1, n1, c1, hk, rfl, rfl, HB, hB⟩ := hrel
    by_cases hkl : k < L.length
    · obtain ⟨g, o, rfl, hc⟩ := hat (by omega)
      obtain ⟨u, hu, hbr⟩ := hc k hkl
      have hu' := (hB.cell (World.block_lt_of_cell? w _ hu)).trans hu
      have hbr' := Lib.hid (hbr.below hB)
      obtain ⟨A2, c2, rfl, _⟩ := id hbr
      have hk1 : (k : Int) < (L.length : Int) := by omega
      have hk0 : (0 : Int) ≤ (k : Int) := by omega
      clear hc hat hbr hu
      go_wp2_with fail
      refine (children_c h HK.out _ _ _ _ _ hbr'.out HB.out).mono ?_
      rintro e w2 ⟨v2, rfl, hv2, hb2⟩
      obtain ⟨A3, n3, c3, rfl⟩ := hv2.form
      have HN := Lib.hid (Eq.subst (motive := fun z => BytesR w2 (.slice A3 n3 c3) z) (Pl.chain_border (h := h) (s := sl) k hkl).symm hv2)
      clear hv2 HB hbr'
      go_wp2_with fail
      go_roundw
      case rel => exact ⟨k + 1, A3, n3, c3, by omega, rfl, by go_num, HN, hB.trans (hb2.mono hB.size)⟩
      case measure => simp [intOf] <;> omega
    · have hk1 : ¬ (k : Int) < (L.length : Int) := by omega
      obtain rfl : k = L.length := by omega
      rw [List.take_length] at HB
      clear hat
      go_wp2_with fail
      go_ret
      exact ⟨_, rfl, HB.out, hB⟩
set_option maxHeartbeats 1000000 in
theorem inner_c (h : Pl.HF) (ok : h.ok) (v s : Value) (sl : List Nat) (L : List (List Nat)) (i : Nat) (hi : i < 18446744073709551616) (w : World) (hs : BytesR w s sl) (hv : HashesR w v L) (hL : L.length ≤ 64) :
    Calls Tryf.prog 35 #[hasherV h, s, v, .int .u64 (i : Int)] w (RetBytes w (Pl.chain h sl ((Pl.lowbits L.length i).zip L))) := by
  obtain ⟨A, cap, rfl, hcap, hy, hat⟩ := hv
  have HK := Lib.hid ok
  have HS := Lib.hid hs
  have HI := Lib.hid hi
  obtain ⟨As, cs, rfl, _⟩ := id hs
  have hm := method_children h
  unfold hasherV
  clear ok hs hy hi
  go_enter Tryf.func35, Tryf.ntmps35
  go_wp2_with fail
  go_loopw [1, 13] (fun sv kv wr => ∃ (k : Nat) (As : Option Addr) (ns cs : Nat), k ≤ L.length ∧ sv = .slice As ns cs ∧ kv = .int .i64 k ∧ Hid (BytesR wr (.slice As ns cs) (Pl.chain h sl ((Pl.lowbits k i).zip (L.take k)))) ∧ Below w.heap.size w wr) (fun _ kv _ => L.length - (intOf kv).toNat)
  case atStart => exact ⟨0, As, _, cs, Nat.zero_le _, rfl, rfl, Lib.hid HS.out, Below.refl _ _⟩
  case round =>
    obtain ⟨k, A1, n1, c1, hk, rfl, rfl, HB, hB⟩ := hrel
    by_cases hkl : k < L.length
    · obtain ⟨g, o, rfl, hc⟩ := hat (by omega)
      obtain ⟨u, hu, hbr⟩ := hc k hkl
      have hu' := (hB.cell (World.block_lt_of_cell? w _ hu)).trans hu
      have hbr' := Lib.hid (hbr.below hB)
      obtain ⟨A2, c2, rfl, _⟩ := id hbr
      have hk1 : (k : Int) < (L.length : Int) := by omega
      have hk0 : (0 : Int) ≤ (k : Int) := by omega
      have HCh := Lib.hid (Pl.chain_inner (h := h) (s := sl) i k hkl)
      have e1 : (i : Int) / 2 ^ k = ((i / 2 ^ k : Nat) : Int) := by simp
      have hq : i / 2 ^ k < 18446744073709551616 := Nat.lt_of_le_of_lt (Nat.div_le_self _ _) HI.out
      generalize i / 2 ^ k = q at e1 hq HCh
      have e2 : bits .and .u64 (q : Int) 1 = ((q % 2 : Nat) : Int) := by rw [← Nat.and_one_is_mod]; exact and_n q 1 hq (by decide)
      have e3 : IntKind.u64.wrap (k : Int) = (k : Int) := wrapN k (by omega)
      have hmk : min k 64 = k := by omega
      clear hc hat hbr hu hq
      rcases Nat.mod_two_eq_zero_or_one q with hb | hb
      · rw [hb] at e2
        rw [if_neg (by omega)] at HCh
        clear hb
        go_wp2_with fail
        refine (children_c h HK.out _ _ _ _ _ HB.out hbr'.out).mono ?_
        rintro e w2 ⟨v2, rfl, hv2, hb2⟩
        obtain ⟨A3, n3, c3, rfl⟩ := hv2.form
        have HN := Lib.hid (Eq.subst (motive := fun z => BytesR w2 (.slice A3 n3 c3) z) HCh.out.symm hv2)
        clear hv2 HB hbr' HCh
        go_wp2_with fail
        go_roundw
        case rel => exact ⟨k + 1, A3, n3, c3, by omega, rfl, by go_num, HN, hB.trans (hb2.mono hB.size)⟩
        case measure => simp [intOf] <;> omega
      · rw [hb] at e2
        rw [if_pos hb] at HCh
        clear hb
        go_wp2_with fail
        refine (children_c h HK.out _ _ _ _ _ hbr'.out HB.out).mono ?_
        rintro e w2 ⟨v2, rfl, hv2, hb2⟩
        obtain ⟨A3, n3, c3, rfl⟩ := hv2.form
        have HN := Lib.hid (Eq.subst (motive := fun z => BytesR w2 (.slice A3 n3 c3) z) HCh.out.symm hv2)
        clear hv2 HB hbr' HCh
        go_wp2_with fail
        go_roundw
        case rel => exact ⟨k + 1, A3, n3, c3, by omega, rfl, by go_num, HN, hB.trans (hb2.mono hB.size)⟩
        case measure => simp [intOf] <;> omega
    · have hk1 : ¬ (k : Int) < (L.length : Int) := by omega
      obtain rfl : k = L.length := by omega
      rw [List.take_length] at HB
      clear hat
      go_wp2_with fail
      go_ret
      exact ⟨_, rfl, HB.out, hB⟩
end Go.Proofs.YtobnmgnnidhfkaaFmt
/- Bytes as strings; bytes.Equal; proof.verifyMatch. -/
namespace Go.Proofs.YtobnmgnnidhfkaaFmt
open Go.ChangeShapes Go.WideShapes Go.ChangeAt Go.RowKit
set_option maxRecDepth 20000
/-- The string of some bytes. -/
def bs (l : List Nat) : ByteArray := strOfNums (l.map fun (n : Nat) => (n : Int))
theorem bs_inj {l m : List Nat} (hl : Pl.Bytes l) (hm : Pl.Bytes m) (h : bs l = bs m) : l = m := by
  have h1 : ((l.map fun (n : Nat) => (n : Int)).map fun n => UInt8.ofNat n.toNat) = ((m.map fun (n : Nat) => (n : Int)).map fun n => UInt8.ofNat n.toNat) := by
    have := congrArg (fun b => b.data.toList) h
    simpa [bs, strOfNums_data] using this
  rw [List.map_map, List.map_map] at h1
  have h2 : ∀ (l m : List Nat), Pl.Bytes l → Pl.Bytes m → l.map (fun n : Nat => UInt8.ofNat ((n : Int).toNat)) = m.map (fun n : Nat => UInt8.ofNat ((n : Int).toNat)) → l = m := by
    intro l
    induction l with
    | nil => intro m _ _ h; cases m with
      | nil => rfl
      | cons b m => simp at h
    | cons a l ih =>
      intro m hl hm h
      cases m with
      | nil => simp at h
      | cons b m =>
        rw [List.map_cons, List.map_cons] at h
        injection h with ha ht
        have e : a = b := by
          have h0 := congrArg UInt8.toNat ha
          have b1 := hl a (by simp)
          have b2 := hm b (by simp)
          simp at h0
          omega
        rw [e, ih m (fun x hx => hl x (by simp [hx])) (fun x hx => hm x (by simp [hx])) ht]
  exact h2 l m hl hm h1
theorem BytesR.str {w : World} {v : Value} {l : List Nat} (h : BytesR w v l) : (convert 26 9 v).run Tryf.prog w = .ok (.string (bs l)) w := by
  obtain ⟨A, cap, rfl, hc, hy, hat⟩ := h
  rcases Nat.eq_zero_or_pos l.length with h0 | h0
  · have hl : l = [] := List.eq_nil_of_length_eq_zero h0
    subst hl
    rw [run_convert_bytes_string w 26 9 5 _ _ cap Tryf.underlying26 Tryf.underlying5 Tryf.underlying9]
    have e0 : bs [] = ByteArray.empty := by rfl
    rw [e0]
    cases A <;> simp [Conv.bytesToString, loadCells]
    all_goals rfl
  · obtain ⟨g, o, rfl, hcell⟩ := hat h0
    refine run_convert_bytes_arg w 26 5 Tryf.underlying26 Tryf.underlying5 g o l.length cap (l.map fun (n : Nat) => (n : Int)) (by simp) (fun i hi => ?_) 9 Tryf.underlying9
    rw [hcell i hi]
    simp [List.getD, hi]
theorem equal_yes (v u : Value) (l : List Nat) (w : World) (hv : BytesR w v l) (hu : BytesR w u l) : Calls Tryf.prog 71 #[v, u] w fun e w' => e = .returned (.bool true) ∧ w = w' := by
  have s1 := hv.str
  have s2 := hu.str
  obtain ⟨A1, n1, c1, rfl⟩ := hv.form
  obtain ⟨A2, n2, c2, rfl⟩ := hu.form
  clear hv hu
  go_enter Tryf.func71, Tryf.ntmps71
  go_wp2
  go_ret
  exact ⟨by simp, rfl⟩
theorem equal_no (v u : Value) (l m : List Nat) (w : World) (hv : BytesR w v l) (hu : BytesR w u m) (hne : l ≠ m) : Calls Tryf.prog 71 #[v, u] w fun e w' => e = .returned (.bool false) ∧ w = w' := by
  have s1 := hv.str
  have s2 := hu.str
  have hn : ¬ (bs l).toList = (bs m).toList := fun h => hne (bs_inj hv.bytes hu.bytes (by
    rw [ByteArray.toList_eq, ByteArray.toList_eq] at h
    cases hl : bs l with | mk a => cases hm : bs m with | mk b => rw [hl, hm] at h; cases a; cases b; simp at h; subst h; rfl))
  obtain ⟨A1, n1, c1, rfl⟩ := hv.form
  obtain ⟨A2, n2, c2, rfl⟩ := hu.form
  clear hv hu hne
  go_enter Tryf.func71, Tryf.ntmps71
  go_wp2
  go_ret
  exact ⟨by simp [hn], rfl⟩
/-- What verifyMatch gives. -/
theorem match_yes (v u : Value) (l : List Nat) (w : World) (hv : BytesR w v l) (hu : BytesR w u l) : Calls Tryf.prog 42 #[v, u] w fun e w' => e = .returned .nilIface ∧ w = w' := by
  have HE := Lib.hid (equal_yes v u l w hv hu)
  obtain ⟨A1, n1, c1, rfl⟩ := hv.form
  obtain ⟨A2, n2, c2, rfl⟩ := hu.form
  clear hv hu
  go_enter Tryf.func42, Tryf.ntmps42
  go_wp2_with (go_at_call 71; refine HE.out.mono ?_; rintro e w' ⟨rfl, rfl⟩)
  go_ret
  exact ⟨rfl, rfl⟩
theorem match_no (v u : Value) (l m : List Nat) (w : World) (hv : BytesR w v l) (hu : BytesR w u m) (hne : l ≠ m) : Calls Tryf.prog 42 #[v, u] w fun e w' => e = .returned (.iface 92 (.agg #[u, v])) ∧ w = w' := by
  have HE := Lib.hid (equal_no v u l m w hv hu hne)
  obtain ⟨A1, n1, c1, rfl⟩ := hv.form
  obtain ⟨A2, n2, c2, rfl⟩ := hu.form
  clear hv hu hne
  go_enter Tryf.func42, Tryf.ntmps42
  go_wp2_with (go_at_call 71; refine HE.out.mono ?_; rintro e w' ⟨rfl, rfl⟩)
  go_ret
  exact ⟨rfl, rfl⟩
end Go.Proofs.YtobnmgnnidhfkaaFmt
