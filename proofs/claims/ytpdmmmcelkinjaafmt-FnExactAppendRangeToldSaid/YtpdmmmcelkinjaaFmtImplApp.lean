/- impl.Append. -/
import Derived.Test.YtpdmmmcelkinjaaFmtRangeOf
import Derived.Test.YtpdmmmcelkinjaaFmtAppG
import Derived.Laws.ResultCell
namespace Go.Proofs.YtpdmmmcelkinjaaFmt
open Go.ChangeShapes Go.WideShapes Go.ChangeAt Go.RowKit Go.Extern.Stop Go.Stop Go.Extern
set_option maxRecDepth 20000
/-- The root that a range tells, and the nodes of its edge. -/
def Pl.rootAt (h : Pl.HF) (b : Nat) (H : List (List Nat)) : List Nat := if b = 0 then Pl.pfold h H else []
def Pl.edgeAt (h : Pl.HF) (b e : Nat) (H : List (List Nat)) : List (Nat × Nat × List Nat) := if b = 0 then Pl.edges h (Pl.pieces 0 e) H 0 else []
/-- impl.rangeOf, wherever the range begins. -/
theorem rangeOf_c (F : Interp) (h : Pl.HF) (ok : h.ok) (g gf base b e : Nat) (hv : Value) (H : List (List Nat)) (A : Option Addr) (n c : Nat) (w : World) (he : e < 9223372036854775808) (hF : F.answers w.tape) (hT : Tab w) (hR : RangeB w g gf h b e hv) (hB : BuiltT w base hv H) (hn : H.length = (Pl.pieces b e).length) :
    Calls Tryf.prog 30 #[.pointer (some ⟨g, 0, none⟩), .slice A n c] w (RetRange b e H (decide (b = 0)) (Pl.rootAt h b H) (Pl.edgeAt h b e H) (.slice A n c) w) := by
  unfold Pl.rootAt Pl.edgeAt
  by_cases h0 : b = 0
  · subst h0
    exact rangeOf_0 h ok g gf base e hv H A n c w he hT hR hB hn
  · rw [if_neg h0, if_neg h0, decide_eq_false h0]
    exact rangeOf_e F h g gf base b e hv H A n c w hF h0 hR hB (by have := Pl.pieces_len b e (by omega); omega)
/-- A range as the program hands it back. -/
def RangeR (base : Nat) (w : World) (b e : Nat) (H : List (List Nat)) (ok : Bool) (root : List Nat) (G E : List SeenN) (v : Value) : Prop :=
  ∃ v2 rv av ev, v = .agg #[.int .u64 (b : Int), .int .u64 (e : Int), v2, rv, .bool ok, av, ev] ∧ BuiltT w base v2 H ∧ BytesT w rv root ∧ SeenB w base av G ∧ SeenB w base ev E
theorem BuiltT.mono {w : World} {b b' : Nat} {v : Value} {H : List (List Nat)} (h : BuiltT w b v H) (hb : b' ≤ b) : BuiltT w b' v H := by
  obtain ⟨us, h1, h2, h3⟩ := h
  exact ⟨us, h1, h2.mono hb, h3⟩
theorem SeenB.mono {w : World} {b b' : Nat} {v : Value} {S : List SeenN} (h : SeenB w b v S) (hb : b' ≤ b) : SeenB w b' v S := by
  obtain ⟨us, h1, h2, h3⟩ := h
  exact ⟨us, h1, h2.mono hb, h3⟩
theorem RangeR.below {base : Nat} {w w' : World} {b e : Nat} {H : List (List Nat)} {ok : Bool} {root : List Nat} {G E : List SeenN} {v : Value} (h : RangeR base w b e H ok root G E v) (hb : Below w.heap.size w w') : RangeR base w' b e H ok root G E v := by
  obtain ⟨v2, rv, av, ev, e1, h1, h2, h3, h4⟩ := h
  exact ⟨v2, rv, av, ev, e1, h1.below hb, h2.below hb, h3.below hb, h4.below hb⟩
/-- What impl.Append gives. -/
def RetApp (h : Pl.HF) (f : Nat → List Nat) (b n : Nat) (w : World) (r : Ending) (w' : World) : Prop :=
  ∃ v, r = .returned (.tuple #[v, .bool true]) ∧ RangeR w.heap.size w' b (b + n) (Pl.ph h f b (b + n)) (decide (b = 0)) (Pl.rootAt h b (Pl.ph h f b (b + n))) (Pl.grownL h f b n) (Pl.edgeAt h b (b + n) (Pl.ph h f b (b + n))) v ∧ Below w.heap.size w w'
theorem results_row_tmp {P : Program} {fn : Func} {p u : Tmp} {ty : TypeId} (h : fn.results = #[.cell p ty, .tmp u]) (tmps : Array Value) (w : World) (g : Nat) (t : TypeId) (cs : Array Value) (fr : Nat × Nat) (d : TypeDesc) (r : Value)
    (hp : tmps.getD p undef = .pointer (some ⟨g, 0, none⟩)) (hr : tmps.getD u undef = r) (hg : w.heap[g]? = some (.cells cs t fr))
    (hu : P.underlying ty = some d) (hd : (match d with | .struct _ | .array _ _ => true | _ => false) = true) (hi : (P.info? ty).map (·.size) = some cs.size) :
    (results fn tmps).run P w = .ok (.tuple #[.agg cs, r]) w := by
  rw [results_cell_tmp h, hp, hr]
  simp [asAddr, run_loadVar_row w g t ty cs fr d hg hu hd hi, Result.andThen]
set_option maxHeartbeats 4000000 in
theorem append_c (F : Interp) (h : Pl.HF) (ok : h.ok) (b : Nat) (v : Value) (L : List (List Nat)) (w : World) (hF : F.answers w.tape) (hv : HashesR w v L) (h2 : ∀ x ∈ L, x.length = 2) (hl : L.length ≤ 1000) (hb : b + L.length < 4611686018427387904) (hT : Tab w) :
    Calls Tryf.prog 23 #[hashV h, .int .u64 (b : Int), v] w (RetApp h (Pl.lv L b) b L.length w) := by
  have hs2 : ((w.alloc (.cells #[.int .u32 (h.A : Int), .int .u32 (h.B : Int), .int .u32 (h.C : Int)] 24)).alloc (.cells #[.int .u64 0, .int .u64 0, .slice none 0 0, .slice none 0 0, .bool false, .slice none 0 0, .slice none 0 0] 31)).heap.size = w.heap.size + 1 + 1 := by simp
  have B2 : Below w.heap.size w ((w.alloc (.cells #[.int .u32 (h.A : Int), .int .u32 (h.B : Int), .int .u32 (h.C : Int)] 24)).alloc (.cells #[.int .u64 0, .int .u64 0, .slice none 0 0, .slice none 0 0, .bool false, .slice none 0 0, .slice none 0 0] 31)) := ((Below.refl _ _).alloc (Nat.le_refl _) _).alloc (by simp) _
  have G1 := Blk.new' (w.alloc (.cells #[.int .u32 (h.A : Int), .int .u32 (h.B : Int), .int .u32 (h.C : Int)] 24)) 31 #[.int .u64 0, .int .u64 0, .slice none 0 0, .slice none 0 0, .bool false, .slice none 0 0, .slice none 0 0] (g := w.heap.size + 1) (by simp)
  have HGR := Lib.hid (grow_c h ok b v L _ (hv.below B2) h2 hl hb (hT.below B2))
  have HB2 := Lib.hid B2
  have HG1 := Lib.hid G1
  have HS2 := Lib.hid hs2
  have HOK := Lib.hid ok
  have HF := Lib.hid hF
  have HT := Lib.hid hT
  obtain ⟨Av, cv, rfl, hx1, hx2, hx3⟩ := id hv
  clear hx1 hx2 hx3
  clear B2 G1 hs2 ok hF hT hv h2 hl
  have HBB := Lib.hid hb
  clear hb
  generalize L.length = n at *
  obtain ⟨Ah, Bh, Ch⟩ := h
  unfold hashV at HGR ⊢
  simp only [] at HGR HB2 HG1 HS2 ⊢
  go_enter Tryf.func23, Tryf.ntmps23
  go_wp2_with fail
  refine HGR.out.mono ?_; rintro r w3 ⟨g, gf, hv', av, rfl, hR, hB, hS, hg, hbl⟩
  obtain ⟨us, hul, hown, _⟩ := id hS
  obtain ⟨A6, c6, rfl, _⟩ := own_slice hown
  clear hul hown HGR
  generalize (Pl.grownL ⟨Ah, Bh, Ch⟩ (Pl.lv L b) b n).length = n6 at *
  have B3 := HB2.out.trans (hbl.mono HB2.out.size)
  have HRO := Lib.hid (rangeOf_c F ⟨Ah, Bh, Ch⟩ HOK.out g gf _ b (b + n) hv' _ A6 n6 c6 w3 (by have := HBB.out; omega) (ans_below HF.out B3) (HT.out.below B3) hR hB (by rw [Pl.ph_length]))
  have HS3 := Lib.hid hS
  have HG3 := Lib.hid (HG1.out.below' hbl)
  have HB3 := Lib.hid B3
  clear hR hB hS hbl B3
  go_wp2_with fail
  refine HRO.out.mono ?_; rintro r w4 ⟨v2, rv, ev, rfl, k1, k2, k3, k4⟩
  obtain ⟨A2, c2, rfl, _⟩ := k1.form
  obtain ⟨Ar, nr, cr, rfl⟩ := k2.1.form
  obtain ⟨us2, hul2, hown2, _⟩ := id k3
  obtain ⟨A7, c7, rfl, _⟩ := own_slice hown2
  clear hul2 hown2 HRO
  have HG4 := Lib.hid (HG3.out.below' k4)
  obtain ⟨y0, y1, y2, y3, y4, y5, y6, f0, f1, f2, f3, f4, f5, f6⟩ := HG4.out.seven
  have K1 := Lib.hid k1
  have K2 := Lib.hid k2
  have K3 := Lib.hid k3
  have K4 := Lib.hid k4
  clear k1 k2 k3 k4
  generalize hh : (⟨Ah, Bh, Ch⟩ : Pl.HF) = h at *
  generalize hbn : b + n = e at *
  generalize hkb : decide (b = 0) = kb at *
  generalize hH : Pl.ph h (Pl.lv L b) b e = H at *
  generalize hE : Pl.edgeAt h b e H = E at *
  generalize H.length = nH at *
  generalize E.length = nE at *
  have HHH := Lib.hid (show Pl.ph h (Pl.lv L b) b e = H from hH)
  have HBN := Lib.hid hbn
  have HKB := Lib.hid hkb
  have HE := Lib.hid hE
  clear hh hbn hkb hH hE
  go_wp2_with fail
  obtain ⟨q1, q2, q3⟩ := set7 HG4.out (.int .u64 (b : Int)) (.int .u64 (e : Int)) (.slice A2 nH c2) (.slice Ar nr cr) (.bool kb) (.slice A6 n6 c6) (.slice A7 nE c7)
  refine bodyPost_ret (v := .tuple #[.agg #[.int .u64 (b : Int), .int .u64 (e : Int), .slice A2 nH c2, .slice Ar nr cr, .bool kb, .slice A6 n6 c6, .slice A7 nE c7], .bool true]) (results_row_tmp rfl _ _ (w.heap.size + 1) 31 _ (0, 0) _ _ rfl rfl q1 Tryf.underlying31 rfl (by kernel_rfl)) rfl ?_
  have BB : Below w.heap.size w w4 := HB3.out.trans (K4.out.mono HB3.out.size)
  unfold RetApp
  rw [HBN.out, HHH.out, HE.out, HKB.out]
  refine ⟨_, rfl, ⟨_, _, _, _, rfl, ?_, ?_, ?_, ?_⟩, BB.trans (q3.mono (by omega))⟩
  · exact (K1.out.keep q2 (by decide) (by decide)).mono HB3.out.size
  · exact K2.out.keep q2 (by decide)
  · exact ((HS3.out.below K4.out).keep q2 (by decide) (by decide)).mono HB2.out.size
  · exact (K3.out.keep q2 (by decide) (by decide)).mono HB3.out.size
/-- The same, everything a letter. -/
def RetAppD (h : Pl.HF) (f : Nat → List Nat) (b n : Nat) (w : World) (r : Ending) (w' : World) : Prop :=
  ∃ (A2 Ar A6 A7 : Option Addr) (c2 nr cr c6 c7 nH nG nE e : Nat) (kb : Bool) (H : List (List Nat)) (R : List Nat) (G E : List SeenN), r = .returned (.tuple #[.agg #[.int .u64 (b : Int), .int .u64 (e : Int), .slice A2 nH c2, .slice Ar nr cr, .bool kb, .slice A6 nG c6, .slice A7 nE c7], .bool true]) ∧
    Hid (e = b + n ∧ kb = decide (b = 0) ∧ H = Pl.ph h f b (b + n) ∧ R = Pl.rootAt h b H ∧ G = Pl.grownL h f b n ∧ E = Pl.edgeAt h b (b + n) H ∧ nH = H.length ∧ nr = R.length ∧ nG = G.length ∧ nE = E.length) ∧
    Hid (BuiltT w' w.heap.size (.slice A2 nH c2) H ∧ BytesT w' (.slice Ar nr cr) R ∧ SeenB w' w.heap.size (.slice A6 nG c6) G ∧ SeenB w' w.heap.size (.slice A7 nE c7) E) ∧ Below w.heap.size w w'
theorem SeenB.form {w : World} {base : Nat} {v : Value} {S : List SeenN} (h : SeenB w base v S) : ∃ A c, v = .slice A S.length c := by
  obtain ⟨us, _, ho, _⟩ := h
  obtain ⟨A, c, e, _⟩ := own_slice ho
  exact ⟨A, c, e⟩
theorem append_d (F : Interp) (h : Pl.HF) (ok : h.ok) (b : Nat) (v : Value) (L : List (List Nat)) (w : World) (hF : F.answers w.tape) (hv : HashesR w v L) (h2 : ∀ x ∈ L, x.length = 2) (hl : L.length ≤ 1000) (hb : b + L.length < 4611686018427387904) (hT : Tab w) :
    Calls Tryf.prog 23 #[hashV h, .int .u64 (b : Int), v] w (RetAppD h (Pl.lv L b) b L.length w) := by
  refine (append_c F h ok b v L w hF hv h2 hl hb hT).mono ?_
  rintro r w3 ⟨v3, rfl, ⟨v2, rv, av, ev, rfl, k1, k2, k3, k4⟩, hb3⟩
  obtain ⟨A2, c2, rfl, _⟩ := k1.form
  obtain ⟨Ar, cr, rfl, _⟩ := k2.1
  obtain ⟨A6, c6, rfl⟩ := k3.form
  obtain ⟨A7, c7, rfl⟩ := k4.form
  exact ⟨_, _, _, _, _, _, _, _, _, _, _, _, _, _, _, _, _, _, rfl, Lib.hid ⟨rfl, rfl, rfl, rfl, rfl, rfl, rfl, rfl, rfl, rfl⟩, Lib.hid ⟨k1, k2, k3, k4⟩, hb3⟩
theorem lv_zero (L : List (List Nat)) : Pl.lv L 0 = Pl.atL L := funext fun _ => rfl
/-- From 0 on the root is that of the tree of the leaves. -/
theorem rootAt_mth (h : Pl.HF) (L : List (List Nat)) (h0 : 0 < L.length) (hl : L.length ≤ 1000) : Pl.rootAt h 0 (Pl.ph h (Pl.lv L 0) 0 (0 + L.length)) = Pl.mth h L := by
  unfold Pl.rootAt Pl.mth
  rw [if_pos rfl, Nat.zero_add, Pl.root_spec h _ _ (by omega) h0, lv_zero]
end Go.Proofs.YtpdmmmcelkinjaaFmt
