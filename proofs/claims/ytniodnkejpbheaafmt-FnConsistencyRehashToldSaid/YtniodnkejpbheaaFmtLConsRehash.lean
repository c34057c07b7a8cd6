/- What Rehash makes of the hashes of the nodes of a consistency proof is the proof of the reference. -/
import Derived.Test.YtniodnkejpbheaaFmtOpenH
import Derived.Test.YtniodnkejpbheaaFmtImplCons
import Derived.Test.YtniodnkejpbheaaFmtImplReh
import Derived.Test.YtniodnkejpbheaaFmtImplVer
import Derived.Test.YtniodnkejpbheaaFmtRehLaw
import Derived.Test.YtniodnkejpbheaaFmtWorks
namespace Go.Proofs.YtniodnkejpbheaaFmt.fnConsistencyRehash
open Go.ChangeShapes Go.WideShapes Go.ChangeAt Go.RowKit
set_option maxRecDepth 100000
theorem mr_len2 (h : Pl.HF) (f : Nat → List Nat) (a n : Nat) (h1 : 1 ≤ n) (hf : ∀ i, a ≤ i → i < a + n → (f i).length = 2) : (Pl.mr h f a n).length = 2 := by
  by_cases hn : 2 ≤ n
  · rw [Pl.mr_two _ _ _ _ hn]; rfl
  · obtain rfl : n = 1 := by omega
    rw [Pl.mr_one]; exact hf a (Nat.le_refl _) (by omega)
theorem nodeHs_fits (h : Pl.HF) (L : List (List Nat)) (N : List (Nat × Nat)) (hL : ∀ x ∈ L, x.length = 2) (ho : OfLeaves L.length N) (hN : N.length ≤ 2147483647) : Fits (nodeHs h L N) := by
  refine ⟨by rw [nodeHs_length]; exact hN, fun x hx => ?_⟩
  obtain ⟨p, hp, rfl⟩ := List.mem_map.1 hx
  have h1 := (ho p hp).2
  have h2 := Nat.two_pow_pos p.1
  rw [Nat.add_mul, Nat.one_mul] at h1
  rw [mr_len2 h (Pl.atL L) _ _ h2 (fun i _ hi => ?_)]
  · omega
  · unfold Pl.atL
    rw [List.getD_eq_getElem?_getD, List.getElem?_eq_getElem (by omega)]
    exact hL _ (List.getElem_mem _)
theorem consE_le {i n : Nat} (h1 : 0 < i) (h2 : i < n) (hn : n < 18446744073709551616) : Pl.consE i n ≤ (Pl.consL i n).length := by
  obtain ⟨_, k2, _⟩ := cl_spec h1 h2 hn
  have e2 := (sk_plan (Pl.cl i) (Pl.ci i) n).2
  unfold Pl.consE Pl.consL
  split
  · rw [e2]
    split
    · omega
    · unfold Pl.planL; simp [Pl.sibs_length] <;> omega
  · unfold Pl.planE Pl.planL
    simp only [List.length_append, List.length_reverse, List.length_cons, Pl.sibs_length]
    split <;> omega
theorem proof_c (h : Pl.HF) (ok : h.ok) (v : Value) (L : List (List Nat)) (m : Nat) (w : World) (h1 : 1 ≤ L.length) (h2 : L.length ≤ 2147483647) (hm1 : 1 ≤ m) (hm : m ≤ L.length) (hv : HashesR w v L) : Calls Tryf.prog 32 #[hashV h, .int .i64 (m : Int), v] w (RetBuilt w (Pl.proofL h m L true)) := by
  have HS := Lib.hid (fun (W : World) (hb : Below w.heap.size w W) => sub_c h ok L.length v L m true W rfl h1 h2 hm1 hm (hv.below hb))
  obtain ⟨A, cap, rfl, _⟩ := id hv
  generalize Pl.proofL h m L true = P at *
  obtain ⟨Ah, Bh, Ch⟩ := h
  unfold hashV at HS ⊢
  simp only [] at HS ⊢
  clear hv h1 h2 hm1 hm ok
  go_enter Tryf.func32, Tryf.ntmps32
  go_wp2_with fail
  have hb0 := (Below.refl w.heap.size w).alloc (Nat.le_refl _) (.cells #[.int .u32 (Ah : Int), .int .u32 (Bh : Int), .int .u32 (Ch : Int)] 42)
  refine (HS.out _ hb0).mono ?_
  rintro e w1 ⟨u1, rfl, hu1, hb1⟩
  obtain ⟨Au, cu, rfl, _⟩ := hu1.form
  go_wp2_with fail
  go_ret
  exact ⟨_, rfl, hu1.mono (by simp), hb0.trans (hb1.mono (by simp))⟩
set_option maxHeartbeats 2000000 in
theorem core (h : Pl.HF) (i : Nat) (A : Option Addr) (cap n : Nat) (L H P : List (List Nat)) (N : List (Nat × Nat)) (b e el ei : Nat) (w : World) (hn : L.length = n) (hin : i ≤ n) (hi1 : 1 ≤ i) (hn200 : n ≤ 200) (hT : Tab w) (hH : Handle w)
    (hF : ∀ W, Below w.heap.size w W → Calls Tryf.prog 23 #[.slice A n cap] W fun e w' => e = .returned (.bool true) ∧ W = w')
    (hL : ∀ W, Below w.heap.size w W → Calls Tryf.prog 24 #[.slice A n cap] W fun e w' => e = .returned (.bool true) ∧ W = w')
    (hIP : ∀ W, Tab W → Calls Tryf.prog 21 #[.int .u64 (i : Int), .int .u64 (n : Int)] W (RetPlanO W N b e el ei))
    (hHs : ∀ (W : World) (nv : Value), Below w.heap.size w W → NodesR W nv N → Calls Tryf.prog 25 #[hashV h, nv, .slice A n cap] W (RetBuiltT W H))
    (hRI : ∀ (W : World) (u : Value), Tab W → HashesR W u H → Calls Tryf.prog 31 #[hashV h, .int .u64 (i : Int), .int .u64 (n : Int), u] W (RetReh W P))
    (hPa : ∀ (W : World), Below w.heap.size w W → Calls Tryf.prog 32 #[hashV h, .int .i64 (i : Int), .slice A n cap] W (RetBuilt W P))
    (hP : P.length ≤ 2147483647) :
    Calls Tryf.prog 13 #[hashV h, .int .i64 (i : Int), .slice A n cap] w fun e w' => e = .returned (.bool true) ∧ Below w.heap.size w w' := by
  have HB := Lib.hid (fun C => (Below.refl w.heap.size w).alloc (Nat.le_refl _) (.cells C 42))
  have HF := Lib.hid hF
  have HL := Lib.hid hL
  have HIP := Lib.hid hIP
  have HHs := Lib.hid hHs
  have HRI2 := Lib.hid hRI
  have HPa := Lib.hid hPa
  have HPl := Lib.hid hP
  have HPr := Lib.hid (fun (W : World) (hb : Below w.heap.size w W) => proves_c W (hH.below hb))
  have HTT := Lib.hid (fun (W : World) (hb : Below w.heap.size w W) => hT.below hb)
  have e1 : IntKind.u64.wrap (i : Int) = (i : Int) := wrapN i (by omega)
  have e2 : IntKind.u64.wrap (n : Int) = (n : Int) := wrapN _ (by omega)
  have h1' : ¬ (i : Int) < 1 := by omega
  have h2 : ¬ (n : Int) < (i : Int) := by omega
  have hn200' : (n : Int) ≤ 200 := by omega
  clear hT hH hF hL hIP hHs hRI hPa hP hn hin hi1 hn200
  obtain ⟨Ah, Bh, Ch⟩ := h
  unfold hashV at HRI2 HHs HPa ⊢
  simp only [] at HRI2 HHs HPa ⊢
  go_enter Tryf.func13, Tryf.ntmps13
  go_wp2_with fail
  refine (HF.out _ (HB.out _)).mono ?_; rintro r w' ⟨rfl, rfl⟩
  go_wp2_with fail
  refine (HL.out _ (HB.out _)).mono ?_; rintro r w' ⟨rfl, rfl⟩
  go_wp2_with fail
  refine (HIP.out _ (HTT.out _ (HB.out _))).mono ?_; rintro r w1 ⟨v1, rfl, hv1, hb1⟩
  obtain ⟨An, cn, rfl, _, _⟩ := id hv1
  have B1 := (HB.out #[.int .u32 (Ah : Int), .int .u32 (Bh : Int), .int .u32 (Ch : Int)]).trans (hb1.mono (by simp))
  have K1 : Blk w1 w.heap.size 42 #[.int .u32 (Ah : Int), .int .u32 (Bh : Int), .int .u32 (Ch : Int)] := (Blk.new w _ _).below' hb1
  have V1 := Lib.hid hv1
  clear hb1 hv1 HB
  obtain ⟨c1, c2, c3, _⟩ := K1.three
  have z1 := K1.lt
  go_wp2_with fail
  have q1 := (Below.refl w1.heap.size w1).alloc (Nat.le_refl _) (.cells #[.slice An N.length cn, .int .u64 (el : Int), .int .u64 (ei : Int), .int .i64 (b : Int), .int .i64 (e : Int)] 28)
  refine (HHs.out _ _ (B1.trans (q1.mono B1.size)) (V1.out.below q1)).mono ?_; rintro r w2 ⟨v2, rfl, hv2, hb2⟩
  have q2 := q1.trans (hb2.mono (by simp))
  have B2 := B1.trans (q2.mono B1.size)
  have K2 := K1.below' q2
  have V2 := Lib.hid hv2.hashes
  obtain ⟨A2, n2, c2', rfl⟩ : ∃ A2 n2 c2', v2 = .slice A2 n2 c2' := by obtain ⟨A, c, e, _⟩ := hv2.hashes; exact ⟨A, _, c, e⟩
  clear c1 c2 c3 z1 B1 K1 V1 hv2 hb2 q1 q2
  obtain ⟨c1, c2, c3, _⟩ := K2.three
  go_wp2_with fail
  refine (HRI2.out _ _ (HTT.out _ B2) V2.out).mono ?_; rintro r w3 ⟨v3, rfl, hv3, hb3⟩
  have B3 := B2.trans (hb3.mono B2.size)
  have K3 := K2.below' hb3
  have V3 := Lib.hid hv3
  obtain ⟨A3, c3', rfl, _⟩ := id hv3
  clear c1 c2 c3 B2 K2 V2 hv3 hb3
  obtain ⟨c1, c2, c3, _⟩ := K3.three
  go_wp2_with fail
  refine (HPa.out _ B3).mono ?_; rintro r w4 ⟨v4, rfl, hv4, hb4⟩
  have B4 := B3.trans (hb4.mono B3.size)
  have V3' := Lib.hid (V3.out.below hb4)
  have V4 := Lib.hid hv4.hashes
  obtain ⟨A4, n4, c4', rfl⟩ : ∃ A4 n4 c4', v4 = .slice A4 n4 c4' := by obtain ⟨A, c, e, _⟩ := hv4.hashes; exact ⟨A, _, c, e⟩
  clear c1 c2 c3 B3 K3 V3 hv4 hb4
  go_wp2_with fail
  refine (sameHashes_c _ _ P P _ V3'.out V4.out HPl.out).mono ?_; rintro r w5 hr
  obtain ⟨rfl, hb5⟩ := hr.yes rfl
  have B5 := B4.trans (hb5.mono B4.size)
  clear B4 hb5 V3' V4 hr
  go_wp2_with fail
  refine (HPr.out _ B5).mono ?_; rintro r w6 ⟨rfl, hb6⟩
  have B6 := B5.trans (hb6.mono B5.size)
  clear hb6 B5
  go_wp2_with fail
  go_ret
  exact ⟨rfl, B6⟩
set_option maxHeartbeats 2000000 in
theorem walkAt (h : Pl.HF) (ok : h.ok) (idx : Int) (v : Value) (L : List (List Nat)) (w : World) (hT : Tab w) (hH : Handle w) (hv : HashesR w v L) :
    Calls Tryf.prog 13 #[hashV h, .int .i64 idx, v] w fun e w' => e = .returned (.bool true) ∧ Below w.heap.size w w' := by
  have hb0 := fun C => (Below.refl w.heap.size w).alloc (Nat.le_refl _) (.cells C 42)
  have HB := Lib.hid hb0
  have HFi := Lib.hid (fun W (hb : Below w.heap.size w W) => fits1_c v L W (hv.below hb))
  obtain ⟨A, cap, rfl, hcap, hat0⟩ := id hv
  clear hat0
  by_cases hf : Fits L
  case neg =>
    have HF : Hid (∀ W, Below w.heap.size w W → Calls Tryf.prog 23 #[.slice A L.length cap] W fun e w' => e = .returned (.bool false) ∧ W = w') := Lib.hid (fun W hb => (HFi.out W hb).mono fun _ _ r => r.no hf)
    obtain ⟨Ah, Bh, Ch⟩ := h
    unfold hashV
    clear hT hH hv hf hb0 HFi
    go_enter Tryf.func13, Tryf.ntmps13
    go_wp2_with fail
    refine (HF.out _ (HB.out _)).mono ?_; rintro e w' ⟨rfl, rfl⟩
    go_wp2_with fail
    go_ret
    exact ⟨rfl, HB.out _⟩
  have HF : Hid (∀ W, Below w.heap.size w W → Calls Tryf.prog 23 #[.slice A L.length cap] W fun e w' => e = .returned (.bool true) ∧ W = w') := Lib.hid (fun W hb => (HFi.out W hb).mono fun _ _ r => r.yes hf)
  have HLe := Lib.hid (fun W (hb : Below w.heap.size w W) => leaves_c (.slice A L.length cap) L W (hv.below hb) hf.1)
  clear HFi
  by_cases hl : IsLeaves L
  case neg =>
    have HL : Hid (∀ W, Below w.heap.size w W → Calls Tryf.prog 24 #[.slice A L.length cap] W fun e w' => e = .returned (.bool false) ∧ W = w') := Lib.hid (fun W hb => (HLe.out W hb).mono fun _ _ r => r.no hl)
    obtain ⟨Ah, Bh, Ch⟩ := h
    unfold hashV
    clear hT hH hv hf hb0 HLe hl
    go_enter Tryf.func13, Tryf.ntmps13
    go_wp2_with fail
    refine (HF.out _ (HB.out _)).mono ?_; rintro e w' ⟨rfl, rfl⟩
    go_wp2_with fail
    refine (HL.out _ (HB.out _)).mono ?_; rintro e w' ⟨rfl, rfl⟩
    go_wp2_with fail
    go_ret
    exact ⟨rfl, HB.out _⟩
  have HL : Hid (∀ W, Below w.heap.size w W → Calls Tryf.prog 24 #[.slice A L.length cap] W fun e w' => e = .returned (.bool true) ∧ W = w') := Lib.hid (fun W hb => (HLe.out W hb).mono fun _ _ r => r.yes hl)
  clear HLe
  by_cases h1 : idx < 1
  · obtain ⟨Ah, Bh, Ch⟩ := h
    unfold hashV
    clear hT hH hv hf hb0 hl
    go_enter Tryf.func13, Tryf.ntmps13
    go_wp2_with fail
    refine (HF.out _ (HB.out _)).mono ?_; rintro e w' ⟨rfl, rfl⟩
    go_wp2_with fail
    refine (HL.out _ (HB.out _)).mono ?_; rintro e w' ⟨rfl, rfl⟩
    go_wp2_with fail
    go_ret
    exact ⟨rfl, HB.out _⟩
  have h1' : ¬ idx < 1 := h1
  by_cases h2 : (L.length : Int) < idx
  · obtain ⟨Ah, Bh, Ch⟩ := h
    unfold hashV
    clear hT hH hv hf hb0 hl
    go_enter Tryf.func13, Tryf.ntmps13
    go_wp2_with fail
    refine (HF.out _ (HB.out _)).mono ?_; rintro e w' ⟨rfl, rfl⟩
    go_wp2_with fail
    refine (HL.out _ (HB.out _)).mono ?_; rintro e w' ⟨rfl, rfl⟩
    go_wp2_with fail
    go_ret
    exact ⟨rfl, HB.out _⟩
  obtain ⟨i, rfl⟩ : ∃ i : Nat, idx = (i : Int) := ⟨idx.toNat, by omega⟩
  have hi : i ≤ L.length := by omega
  obtain ⟨l1, l2, l3⟩ := hl
  have HHs := fun (N : List (Nat × Nat)) (hN : N.length ≤ 1000) (ho : OfLeaves L.length N) (W : World) (nv : Value) (hb : Below w.heap.size w W) (hn : NodesR W nv N) => hashesOf_c h ok nv (.slice A L.length cap) N L W hn (hv.below hb) (by omega) (by omega) ho
  have HPa := fun (W : World) (hb : Below w.heap.size w W) => proof_c h ok (.slice A L.length cap) L i W (by omega) (by omega) (by omega) hi (hv.below hb)
  have HPl : (Pl.proofL h i L true).length ≤ 2147483647 := by have := proof_len h i L true (by omega); omega
  rcases Nat.lt_or_ge i L.length with hlt | hge
  · have HOF := cons_of L i (by omega) hlt (by omega)
    have hpl := cons_len (s := i) (t := L.length) (by omega) hlt (by omega)
    have HLaw := cons_reh h L i (by omega) hlt (by omega)
    refine core h i A cap L.length L (nodeHs h L (Pl.consL i L.length)) (Pl.proofL h i L true) (Pl.consL i L.length) (Pl.consB i L.length) (Pl.consE i L.length) (Pl.cl i + Pl.up (Pl.cl i) (Pl.ci i) L.length) (Pl.ephI (Pl.cl i) (Pl.ci i) L.length) w rfl hi (by omega) (by omega) hT hH HF.out HL.out
      (fun W hT => implCons i L.length (by omega) hlt (by omega) W hT) (HHs _ hpl HOF) (fun W u hT hu => ?_) HPa HPl
    have := rehCons_c h ok i L.length _ _ _ _ (Pl.consL i L.length) u (nodeHs h L (Pl.consL i L.length)) W hT (fun W hT => consistency_c i L.length (by omega) hlt (by omega) W hT) hu (nodeHs_fits h L _ l1 HOF (by omega)) (nodeHs_length _ _ _).symm (by rw [nodeHs_length]; exact consE_le (by omega) hlt (by omega))
    rwa [HLaw] at this
  · obtain rfl : i = L.length := by omega
    have hP0 := Pl.proofL_whole h L
    rw [hP0] at HPa HPl
    refine core h L.length A cap L.length L [] [] [] 0 0 0 0 w rfl hi (by omega) (by omega) hT hH HF.out HL.out
      (fun W hT => (implSame L.length W).mono fun e w' ⟨A, c, he, hn, hb⟩ => ⟨_, he, hn, hb⟩) (HHs [] (by simp) (fun p hp => by simp at hp)) (fun W u hT hu => ?_) HPa HPl
    have := rehCons_c h ok L.length L.length 0 0 0 0 [] u [] W hT (fun W hT => (consSame_c L.length W).mono fun e w' ⟨v, he, hn, hb⟩ => ⟨v, he, hn, hb⟩) hu ⟨by simp, fun x hx => by simp at hx⟩ rfl (by simp)
    exact this
theorem walk (F : Stop.Interp) (w : World) (_hF : F.answers w.tape) (h : Pl.HF) (ok : h.ok) (idx : Int) (_hi : -9223372036854775808 ≤ idx ∧ idx ≤ 9223372036854775807) (v : Value) (L : List (List Nat)) (hv : HashesR w v L) (hT : LaidIsH w) :
    Calls Tryf.prog 13 #[hashV h, .int .i64 idx, v] w fun e w' => e = .returned (.bool true) ∧ Below w.heap.size w w' := walkAt h ok idx v L w hT.1 hT.2 hv
theorem reads (os : Os) {H : Type} (enc : TypeId × Value → H) : ∃ places, DataW.whole enc Tryf.prog ((laidWorldH os).forCall (fun _ _ => 0) ⟨#[], #[.agg #[.int .u32 0, .int .u32 0, .int .u32 0], .int .i64 0, .slice none 0 0], []⟩).memory Tryf.f13.params.toList Rows.fnConsistencyRehashSpec.vars false (#[.agg #[.int .u32 0, .int .u32 0, .int .u32 0], .int .i64 0, .slice none 0 0] : Array Value).toList 8 = some ([.agg [.lit (.int .u32 0), .lit (.int .u32 0), .lit (.int .u32 0)], .lit (.int .i64 0), .nil], [], places) :=
  ⟨[], by kernel_rfl⟩
set_option maxRecDepth 100000 in
theorem contract (F : Stop.Interp) (H : Type) (enc : TypeId × Value → H) (W : World) (base : Nat) (args : Array Value) (ds gs : List (DataW H)) (before : List MemPlace) (hF : F.told.answers W.tape)
    (hval0 : ∀ (j : Nat) t v, Tryf.f13.params[j]? = some t → args[j]? = some v → Value.okWide Tryf.prog W .any base t v)
    (hW : DataW.Whole enc Tryf.prog Tryf.f13.params.toList Rows.fnConsistencyRehashSpec.vars false W args.toList ds gs before) (hL : laidMetH Tryf.prog Rows.fnConsistencyRehashRow.laid W) :
    Calls Tryf.prog 13 args W fun e W' => ∃ v, e = .returned v ∧ ((OpenSpec.ofChange Rows.fnConsistencyRehashSpec).at F.told).post enc Tryf.prog Tryf.f13 false true false false W args v W' := by
  have hval : ∀ (j : Nat) t v, Tryf.f13.params[j]? = some t → args[j]? = some v → Value.okWide Tryf.prog W .any base t v := hval0
  have hW' := hW
  obtain ⟨p, q, hA0, hV, rfl, hfz, hnd⟩ := hW
  have hA : DataW.TrodAll enc Tryf.prog W 0 (fun _ => true) true Tryf.f13.params.toList args.toList ds p := hA0
  rw [Tryf.params13] at hA hval
  obtain ⟨v0, vs0, d0, ds0, p0, q0, hargs, rfl, rfl, h0, r0⟩ := trodAll_cons hA
  obtain ⟨v1, vs1, d1, ds1, p1, q1, rfl, rfl, rfl, h1, r1⟩ := trodAll_cons r0
  obtain ⟨v2, vs2, d2, ds2, p2, q2, rfl, rfl, rfl, h2, r2⟩ := trodAll_cons r1
  obtain ⟨rfl, rfl, rfl⟩ := trodAll_nil r2
  obtain rfl : args = #[v0, v1, v2] := by cases args; simp_all
  obtain ⟨rfl, rfl⟩ := trodVars_none hV
  have k0 := h0
  have lt0 : ∀ x ∈ p0, x.block < W.heap.size := by obtain ⟨m, hm⟩ := k0; exact DataW.trod_lt m _ _ _ hm
  obtain ⟨hh0, rfl, w0⟩ := openHash (hval 0 42 v0 rfl rfl) h0
  have k1 := h1
  have lt1 : ∀ x ∈ p1, x.block < W.heap.size := by obtain ⟨m, hm⟩ := k1; exact DataW.trod_lt m _ _ _ hm
  obtain ⟨a1, rfl, hd1, hp1, w1⟩ := open_int Tryf.underlying3 (hval 1 3 v1 rfl rfl) h1
  have k2 := h2
  have lt2 : ∀ x ∈ p2, x.block < W.heap.size := by obtain ⟨m, hm⟩ := k2; exact DataW.trod_lt m _ _ _ hm
  obtain ⟨L2, w2⟩ := openHashes (hval 2 43 v2 rfl rfl) h2
  refine (walk F.told W hF hh0 w0 a1 (bound_i64 w1) v2 L2 w2 (laidIsH_of hL)).mono fun e W' ⟨he, bel⟩ => ?_
  subst he
  exact ⟨_, rfl, _, _, _, [], _, [], hW', trodAll_mk1 (shut_bool Tryf.underlying4 _), (trodAll_cons_mk (Below.trod laidOut (by kernel_rfl) (of_decide_eq_true (by kernel_rfl)) k0 bel lt0) (trodAll_cons_mk (Below.trod laidOut (by kernel_rfl) (of_decide_eq_true (by kernel_rfl)) k1 bel lt1) (trodAll_cons_mk (Below.trod laidOut (by kernel_rfl) (of_decide_eq_true (by kernel_rfl)) k2 bel lt2) trodAll_mk0))), rfl, bel.frame _, fun h => by cases h⟩
set_option maxRecDepth 100000 in
theorem lifted (os : Os) (started : os.Started) (H : Type) (enc : TypeId × Value → H) :
    ReturnsInTold none {} Tryf.checked os 13 .any Input.okWide ((OpenSpec.ofChange Rows.fnConsistencyRehashSpec).preRow enc Tryf.prog Tryf.f13 Rows.fnConsistencyRehashRow.domain false Rows.fnConsistencyRehashRow.laid) (fun F => ((OpenSpec.ofChange Rows.fnConsistencyRehashSpec).at F).post enc Tryf.prog Tryf.f13 false true false false) (aloneAtReturn Tryf.prog) nothingAlways := by
  obtain ⟨places, hx⟩ := reads os enc
  refine returnsInTold_of_row (C := Tryf.checked) (s := OpenSpec.ofChange Rows.fnConsistencyRehashSpec) mayEnter own started (by kernel_rfl) Tryf.func13
    (OpenSpec.witness_stopped_at (enc := enc) (C := Tryf.checked) false (laidWorldH os) #[.agg #[.int .u32 0, .int .u32 0, .int .u32 0], .int .i64 0, .slice none 0 0] rfl (by kernel_rfl) (by kernel_rfl) (by kernel_rfl)
      (OpenSpec.preRow_of_cond 8 hx (by kernel_rfl) (fun k hk => by cases hk) (by kernel_rfl) (laid_metH os #[.agg #[.int .u32 0, .int .u32 0, .int .u32 0], .int .i64 0, .slice none 0 0]))) ?_
  intro F W base args ds gs before _ hF hval hW _ _ _ hL _
  exact contract F H enc W base args ds gs before hF hval hW hL
theorem proved : Rows.FnConsistencyRehashToldSaid :=
  Claim7.holds_of_told_tied_any_at .later 13 Tryf.f13 "fmt.errorf" [] [] _ _ _ _ _ (by kernel_rfl) rfl rfl rfl laidOut (by kernel_rfl) rfl ⟨rfl, rfl, rfl, rfl, rfl, rfl, rfl⟩ rfl rfl (by kernel_rfl) (by kernel_rfl) Tryf.func13 (by kernel_rfl)
    (of_decide_eq_true (by kernel_rfl)) (by unfold Func.isWrapper; first | (rw [if_pos (by decide +kernel)]; kernel_rfl) | (rw [if_neg (by decide +kernel)]; exact ⟨rfl, rfl⟩)) stopsAre.symm rfl stopKnobs.symm (by kernel_rfl)
    (by kernel_rfl) (by kernel_rfl) (by kernel_rfl) (by kernel_rfl) (by kernel_rfl) (by kernel_rfl) (by kernel_rfl) (by kernel_rfl) (by kernel_rfl) rfl (by kernel_rfl) rfl rfl
    rfl rfl
    rfl mainIs (by kernel_rfl) (by kernel_rfl) (by decide) (by kernel_rfl) fnConsistencyRehash_row_tie
    (OpenClaim.moreEntering_of mayEnter (by kernel_rfl) (by kernel_rfl) (by kernel_rfl) (by kernel_rfl) (by kernel_rfl) (by kernel_rfl) (by kernel_rfl) liftsFinal.symm make)
    ⟨_, WideRow.started_initial, quiet _⟩
    (fun os started _ H enc _ => lifted os started H enc)
end Go.Proofs.YtniodnkejpbheaaFmt.fnConsistencyRehash
