/- proof.RootFromInclusionProof, where the proof has the right length. -/
import Derived.Test.YtobnmgnnidhfkaaFmtHashes
import Derived.Test.YtobnmgnnidhfkaaFmtMth
namespace Go.Proofs.YtobnmgnnidhfkaaFmt
open Go.ChangeShapes Go.WideShapes Go.ChangeAt Go.RowKit
set_option maxRecDepth 20000
theorem inn_le {i s : Nat} (hi : i < s) (hs : s < 18446744073709551616) : Pl.inn i s ≤ 64 := by
  unfold Pl.inn
  exact Pl.blen_le (Nat.xor_lt_two_pow (n := 64) (by omega) (by omega))
theorem inner_size (i s : Nat) (hi : i < s) (hs : s < 18446744073709551616) (w : World) : Calls Tryf.prog 57 #[.int .u64 (i : Int), .int .u64 (s : Int)] w fun e w' => e = .returned (.int .i64 ((Pl.inn i s : Nat) : Int)) ∧ w = w' := by
  have e1 : IntKind.u64.wrap ((s : Int) - 1) = ((s - 1 : Nat) : Int) := by rw [IntKind.wrap_u64]; omega
  have e2 := u64_xor_nat i (s - 1) (by omega) (by omega)
  have hx : i ^^^ (s - 1) < 18446744073709551616 := Nat.xor_lt_two_pow (n := 64) (by omega) (by omega)
  have HL := Lib.hid (fun w => len_c (i ^^^ (s - 1)) hx w)
  have he : bitLen (i ^^^ (s - 1)) = Pl.inn i s := rfl
  rw [he] at HL
  generalize Pl.inn i s = d at HL ⊢
  clear he
  generalize i ^^^ (s - 1) = x at *
  generalize s - 1 = s1 at *
  go_enter Tryf.func57, Tryf.ntmps57
  go_wp2_with (go_at_call 59; refine (HL.out _).mono ?_; rintro e w' ⟨rfl, rfl⟩)
  go_ret
  exact ⟨rfl, rfl⟩
theorem decomp_c (i s : Nat) (hi : i < s) (hs : s < 18446744073709551616) (w : World) : Calls Tryf.prog 34 #[.int .u64 (i : Int), .int .u64 (s : Int)] w fun e w' => e = .returned (.tuple #[.int .i64 ((Pl.inn i s : Nat) : Int), .int .i64 ((Pl.bord i s : Nat) : Int)]) ∧ w = w' := by
  have HI := Lib.hid (fun w => inner_size i s hi hs w)
  have hle := inn_le hi hs
  have hq : i / 2 ^ Pl.inn i s < 18446744073709551616 := Nat.lt_of_le_of_lt (Nat.div_le_self _ _) (by omega)
  have HO := Lib.hid (fun w => ones_c (i / 2 ^ Pl.inn i s) hq w)
  have hb : Pl.pop64 (i / 2 ^ Pl.inn i s) = Pl.bord i s := rfl
  rw [hb] at HO
  generalize Pl.bord i s = b at HO ⊢
  clear hb
  have e1 : (i : Int) / 2 ^ Pl.inn i s = ((i / 2 ^ Pl.inn i s : Nat) : Int) := by simp
  generalize i / 2 ^ Pl.inn i s = q at *
  generalize Pl.inn i s = d at *
  have e2 : IntKind.u64.wrap (d : Int) = (d : Int) := wrapN d (by omega)
  go_enter Tryf.func34, Tryf.ntmps34
  go_wp2_with fail
  refine (HI.out _).mono ?_; rintro e w' ⟨rfl, rfl⟩
  go_wp2_with fail
  refine (HO.out _).mono ?_; rintro e w' ⟨rfl, rfl⟩
  go_wp2_with fail
  go_ret2
  exact ⟨rfl, rfl⟩
theorem method_size (h : Pl.HF) (w : World) : (Go.method 289 24 (hashV h) "Size").run Tryf.prog w = .ok (96, hashV h) w := by kernel_rfl
theorem hsize_c (h : Pl.HF) (w : World) : Calls Tryf.prog 96 #[hashV h] w fun e w' => e = .returned (.int .i64 2) ∧ Below w.heap.size w w' := by
  unfold hashV
  go_enter Tryf.func96, Tryf.ntmps96
  go_wp2
  go_ret
  exact ⟨rfl, (Below.refl _ _).alloc (Nat.le_refl _) _⟩
theorem elemHashes : Tryf.prog.elem 27 = 26 := by kernel_rfl
theorem sizeBytes (w : World) : (sizeOf 26).run Tryf.prog w = .ok 1 w := by
  have h : (Tryf.prog.info? 26).map (fun i => (i.zero, i.size, i.bytes)) = some (some (.slice none 0 0), 1, 24) := by kernel_rfl
  obtain ⟨i0, hi, hz0, hz1, hz2⟩ := info_parts h
  simp [sizeOf, typeInfo, hi, hz1]
theorem add_plain3 (g o k : Nat) : (⟨g, o, none⟩ : Addr).add k = ⟨g, o + k, none⟩ := by unfold Addr.add; split <;> simp_all
theorem hashes_head (A : Option Addr) (n cap k : Nat) (h : k ≤ cap) (W : World) :
    (Instr.slice 27 (.slice A n cap) none (some (.int .i64 (k : Int))) none).run Tryf.prog W = .ok (.slice (if cap = 0 then A else A.map (·.add 0)) k cap) W := by
  rw [run_slice_h W 27 _ _ _ (by rw [elemHashes]; exact Tryf.underlying27) .i64 (k : Int) (by omega) (by omega), elemHashes, sizeBytes]
  rfl
theorem hashes_tail (A : Option Addr) (n cap k : Nat) (h : k ≤ n) (W : World) :
    (Instr.slice 27 (.slice A n cap) (some (.int .i64 (k : Int))) none none).run Tryf.prog W = .ok (.slice (if cap = k then A else A.map (·.add (k * 1))) (n - k) (cap - k)) W := by
  rw [run_slice_l W 27 _ _ _ (by rw [elemHashes]; exact Tryf.underlying27) .i64 (k : Int) (by omega) (by omega), elemHashes, sizeBytes]
  rfl
theorem HashesR.head {w : World} {A : Option Addr} {n cap k : Nat} {L : List (List Nat)} (h : HashesR w (.slice A n cap) L) (hk : k ≤ L.length) :
    HashesR w (.slice (if cap = 0 then A else A.map (·.add 0)) k cap) (L.take k) := by
  obtain ⟨A', cap', e, hc, hy, hat⟩ := h
  injection e with e1 e2 e3
  subst e1 e2 e3
  have hl : (L.take k).length = k := by simp; omega
  refine ⟨_, _, by rw [hl], by rw [hl]; omega, fun x hx => hy x (List.mem_of_mem_take hx), fun hp => ?_⟩
  rw [hl] at hp
  obtain ⟨g, o, rfl, h⟩ := hat (by omega)
  rw [if_neg (by omega)]
  refine ⟨g, o, by simp [add_plain3], fun j hj => ?_⟩
  rw [hl] at hj
  have := h j (by omega)
  simpa using this
theorem HashesR.tail {w : World} {A : Option Addr} {n cap k : Nat} {L : List (List Nat)} (h : HashesR w (.slice A n cap) L) (hk : k ≤ L.length) :
    HashesR w (.slice (if cap = k then A else A.map (·.add (k * 1))) (n - k) (cap - k)) (L.drop k) := by
  obtain ⟨A', cap', e, hc, hy, hat⟩ := h
  injection e with e1 e2 e3
  subst e1 e2 e3
  have hl : (L.drop k).length = L.length - k := by simp
  refine ⟨_, _, by rw [hl], by rw [hl]; omega, fun x hx => hy x (List.mem_of_mem_drop hx), fun hp => ?_⟩
  rw [hl] at hp
  obtain ⟨g, o, rfl, h⟩ := hat (by omega)
  rw [if_neg (by omega)]
  refine ⟨g, o + k, by simp [add_plain3], fun j hj => ?_⟩
  rw [hl] at hj
  have := h (k + j) (by omega)
  rw [show o + k + j = o + (k + j) by omega]
  simpa using this
/-- Bytes and no error. -/
def RetBytesT (w : World) (l : List Nat) (e : Ending) (w' : World) : Prop := ∃ v, e = .returned (.tuple #[v, .nilIface]) ∧ BytesR w' v l ∧ Below w.heap.size w w'
set_option maxHeartbeats 1000000 in
theorem root_ok (h : Pl.HF) (ok : h.ok) (i s : Nat) (hi : i < s) (hs : s < 18446744073709551616) (lv v : Value) (ll : List Nat) (L : List (List Nat)) (w : World) (hl2 : ll.length = 2) (hlv : BytesR w lv ll) (hv : HashesR w v L) (hL : L.length = (Pl.dirs i s).length) :
    Calls Tryf.prog 19 #[hasherV h, .int .u64 (i : Int), .int .u64 (s : Int), lv, v] w (RetBytesT w (Pl.chain h ll ((Pl.dirs i s).zip L))) := by
  have hle := inn_le hi hs
  have HD := Lib.hid (fun w => decomp_c i s hi hs w)
  have hdl := Pl.dirs_len i s hi hs
  have hde := Pl.dirs_eq s i hi hs
  obtain ⟨A, cap, rfl, hcap, _⟩ := id hv
  obtain ⟨Al, cl, rfl, _⟩ := id hlv
  have hb : Pl.bord i s ≤ 64 := Pl.pop_le 64 _
  have HT := Lib.hid (hv.head (k := Pl.inn i s) (by omega))
  have HR := Lib.hid (hv.tail (k := Pl.inn i s) (by omega))
  have s1 := fun W => hashes_head A L.length cap (Pl.inn i s) (by omega) W
  have s2 := fun W => hashes_tail A L.length cap (Pl.inn i s) (by omega) W
  have hta : (L.take (Pl.inn i s)).length = Pl.inn i s := by simp; omega
  have htd : (L.drop (Pl.inn i s)).length = Pl.bord i s := by simp; omega
  have HC : Hid (Pl.chain h ll ((Pl.dirs i s).zip L) = Pl.chain h (Pl.chain h ll ((Pl.lowbits (L.take (Pl.inn i s)).length i).zip (L.take (Pl.inn i s)))) ((List.replicate (L.drop (Pl.inn i s)).length true).zip (L.drop (Pl.inn i s)))) := Lib.hid (by
    rw [hta, htd, ← Pl.chain_append, hde]
    conv => lhs; rw [← List.take_append_drop (Pl.inn i s) L]
    rw [List.zip_append (by rw [Pl.lowbits_length]; exact hta.symm)])
  have hm := method_size h
  have e1 : IntKind.i64.wrap (((Pl.inn i s : Nat) : Int) + ((Pl.bord i s : Nat) : Int)) = ((L.length : Nat) : Int) := by rw [IntWalk.i64_in _ (by omega)]; omega
  have hLle : L.length ≤ 128 := by omega
  have HH1 : Hid ((L.take (Pl.inn i s)).length ≤ 64) := Lib.hid (by omega)
  have HH2 : Hid ((L.drop (Pl.inn i s)).length ≤ 1000) := Lib.hid (by omega)
  clear hdl hde hta htd
  generalize (if cap = 0 then A else A.map (·.add 0)) = A1 at HT s1
  generalize (if cap = Pl.inn i s then A else A.map (·.add (Pl.inn i s * 1))) = A2 at HR s2
  have hk64 : ((Pl.inn i s : Nat) : Int) ≤ 64 := by omega
  generalize Pl.chain h ll ((Pl.dirs i s).zip L) = res at HC ⊢
  generalize L.take (Pl.inn i s) = LT at *
  generalize L.drop (Pl.inn i s) = LD at *
  generalize Pl.inn i s = d at *
  generalize Pl.bord i s = b at *
  have hg : ¬ (s : Int) ≤ (i : Int) := by omega
  have HK := Lib.hid ok
  have HLV := Lib.hid hlv
  have HI : Hid (i < 18446744073709551616) := Lib.hid (by omega)
  rw [hl2] at HLV ⊢
  unfold hasherV
  clear ok hlv hv hl2 hL
  go_enter Tryf.func19, Tryf.ntmps19
  go_wp2_with fail
  refine (hsize_c h _).mono ?_; rintro e w1 ⟨rfl, hb1⟩
  go_wp2_with fail
  refine (HD.out _).mono ?_; rintro e w' ⟨rfl, rfl⟩
  go_wp2_with fail
  refine (inner_c h HK.out _ _ ll LT i HI.out _ (HLV.out.below hb1) (HT.out.below hb1) HH1.out).mono ?_
  rintro e w2 ⟨v2, rfl, hv2, hb2⟩
  have B2 : Below w.heap.size w w2 := hb1.trans (hb2.mono hb1.size)
  obtain ⟨A3, n3, c3, rfl⟩ := hv2.form
  have HV2 := Lib.hid hv2
  clear hv2 hb1 hb2
  go_wp2_with fail
  refine (border_c h HK.out _ _ _ LD _ HV2.out (HR.out.below B2) HH2.out).mono ?_
  rintro e w3 ⟨v3, rfl, hv3, hb3⟩
  obtain ⟨A4, n4, c4, rfl⟩ := hv3.form
  have HV3 := Lib.hid hv3
  clear hv3
  go_wp2_with fail
  go_ret2
  exact ⟨_, rfl, by rw [HC.out]; exact HV3.out, B2.trans (hb3.mono B2.size)⟩
/-- What VerifyInclusion gives: no error, or the mismatch's error. -/
def RetMatch (w : World) (yes : Prop) (e : Ending) (w' : World) : Prop :=
  ((yes ∧ e = .returned .nilIface) ∨ (¬ yes ∧ ∃ A1 n1 c1 A2 n2 c2, e = .returned (.iface 92 (.agg #[.slice A1 n1 c1, .slice A2 n2 c2])))) ∧ Below w.heap.size w w'
theorem verify_ok (h : Pl.HF) (ok : h.ok) (i s : Nat) (hi : i < s) (hs : s < 18446744073709551616) (lv v rv : Value) (ll rl : List Nat) (L : List (List Nat)) (w : World) (hl2 : ll.length = 2) (hlv : BytesR w lv ll) (hv : HashesR w v L) (hrv : BytesR w rv rl) (hL : L.length = (Pl.dirs i s).length) :
    Calls Tryf.prog 24 #[hasherV h, .int .u64 (i : Int), .int .u64 (s : Int), lv, v, rv] w (RetMatch w (Pl.chain h ll ((Pl.dirs i s).zip L) = rl)) := by
  have HR := Lib.hid (root_ok h ok i s hi hs lv v ll L w hl2 hlv hv hL)
  obtain ⟨A1, n1, c1, rfl⟩ := hlv.form
  obtain ⟨A2, c2, rfl, _⟩ := id hv
  obtain ⟨A3, n3, c3, rfl⟩ := hrv.form
  have HV := Lib.hid hrv
  generalize Pl.chain h ll ((Pl.dirs i s).zip L) = res at HR ⊢
  clear hlv hv hrv ok hL hl2
  go_enter Tryf.func24, Tryf.ntmps24
  go_wp2_with fail
  refine HR.out.mono ?_
  rintro e w1 ⟨v1, rfl, hv1, hb1⟩
  obtain ⟨A4, n4, c4, rfl⟩ := hv1.form
  have HV1 := Lib.hid hv1
  clear hv1
  by_cases he : res = rl
  · subst he
    go_wp2_with (go_at_call 42; refine (match_yes _ _ res _ HV1.out (HV.out.below hb1)).mono ?_; rintro e w' ⟨rfl, rfl⟩)
    go_ret
    exact ⟨.inl ⟨by trivial, rfl⟩, hb1⟩
  · have HE := Lib.hid he
    clear he
    go_wp2_with (go_at_call 42; refine (match_no _ _ res rl _ HV1.out (HV.out.below hb1) HE.out).mono ?_; rintro e w' ⟨rfl, rfl⟩)
    go_ret
    exact ⟨.inr ⟨HE.out, _, _, _, _, _, _, rfl⟩, hb1⟩
end Go.Proofs.YtobnmgnnidhfkaaFmt
