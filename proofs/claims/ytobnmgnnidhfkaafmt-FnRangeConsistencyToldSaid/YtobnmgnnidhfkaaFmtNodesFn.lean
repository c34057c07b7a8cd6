/- The walk of proof.nodes. -/
import Derived.Test.YtobnmgnnidhfkaaFmtNodes
import Derived.Test.YtobnmgnnidhfkaaFmtMth
import Derived.Test.YtobnmgnnidhfkaaFmtNode
import Derived.Test.YtobnmgnnidhfkaaFmtPieces
import Derived.Deep.RegionHeld3
import Derived.Deep.AppendLies
import Derived.Deep.RegionLaw
import Derived.Deep.DeepCutAuto
import Derived.Lib.Hide
namespace Go.Proofs.YtobnmgnnidhfkaaFmt
open Go.ChangeShapes Go.WideShapes Go.ChangeAt Go.RowKit
set_option maxRecDepth 20000

theorem run_make_rowN {P : Program} (t e : TypeId) (i : TypeInfo) (z : Value) (ht : P.underlying t = some (.slice e)) (hi : P.info? e = some i) (hz : i.zero = some z)
    (kl kc : IntKind) (n c : Nat) (hnc : n ≤ c) (hbytes : i.bytes * c ≤ 281474976710656) (h63 : c ≤ 9223372036854775807) (w : World) :
    (Instr.makeSlice t (.int kl (n : Int)) (.int kc (c : Int))).run P w = .ok (.slice (some ⟨w.heap.size, 0, none⟩) n c) (w.alloc (.cells (madeCells z.cells (c * i.size)) e)) := by
  have hb : (i.bytes : Int) * (c : Int) ≤ 281474976710656 := by
    have h : ((i.bytes * c : Nat) : Int) ≤ 281474976710656 := by omega
    rwa [Int.natCast_mul] at h
  have hr := run_make (P := P) w t e i z ht hi hz kl kc n c (by omega) (by omega) hb (by omega)
  simp only [Int.toNat_natCast] at hr
  exact hr
theorem own_made {w : World} {base g cp : Nat} {t : TypeId} {MC : Array Value} (hb : base ≤ w.heap.size) (hm : cp ≤ maxLen) (hs : MC.size = cp * 2) (hg : g = w.heap.size) :
    (w.alloc (.cells MC t)).ownsRow base t 2 (.slice (some ⟨g, 0, none⟩) 0 cp) 0 [] := by subst hg; exact World.ownsRow_made w MC cp hb hm hs
theorem news_at {w : World} {g : Nat} {t : TypeId} {a b : Value} (hb : Blk w g t #[a, b]) : ∀ j u, [a, b][j]? = some u → w.cell? ((⟨g, 0, none⟩ : Addr).add j) = some u := World.news_of_block hb
/-- What proof.nodes gives: a list of nodes, the part that makes up the ephemeral node, and that node. -/
def RetPlanN (w : World) (L : List (Nat × Nat)) (b x l i : Nat) (e : Ending) (w' : World) : Prop :=
  ∃ v, e = .returned (.agg #[v, .int .i64 (b : Int), .int .i64 (x : Int), .int .u64 (l : Int), .int .u64 (i : Int)]) ∧ NodesR w' v L ∧ Below w.heap.size w w' ∧ Fresh w.heap.size v
theorem nodes_fin {w w6 : World} {hb0 g5 N2 cap5 : Nat} {L : List (Nat × Nat)} (hL : L.length = N2) (hbb : w.heap.size < hb0) (HO : w6.ownsRow hb0 60 2 (.slice (some ⟨g5, 0, none⟩) N2 cap5) N2 (nodeCells L)) (HB : Below w.heap.size w w6) (x0 x1 x2 x3 x4 : Value) (o1 o2 o3 : Obj) :
    NodesR ((((((((w6.setCell ⟨w.heap.size, 0, none⟩ x0).setCell ⟨w.heap.size, 1, none⟩ x1).setCell ⟨w.heap.size, 2, none⟩ x2).setCell ⟨w.heap.size, 3, none⟩ x3).setCell ⟨w.heap.size, 4, none⟩ x4).alloc o1).alloc o2).alloc o3) (.slice (some ⟨g5, 0, none⟩) N2 cap5) L ∧
    Below w.heap.size w ((((((((w6.setCell ⟨w.heap.size, 0, none⟩ x0).setCell ⟨w.heap.size, 1, none⟩ x1).setCell ⟨w.heap.size, 2, none⟩ x2).setCell ⟨w.heap.size, 3, none⟩ x3).setCell ⟨w.heap.size, 4, none⟩ x4).alloc o1).alloc o2).alloc o3) := by
  have o5 := ownsRow_setCell_below (ownsRow_setCell_below (ownsRow_setCell_below (ownsRow_setCell_below (ownsRow_setCell_below HO (a := ⟨w.heap.size, 0, none⟩) hbb x0) (a := ⟨w.heap.size, 1, none⟩) hbb x1) (a := ⟨w.heap.size, 2, none⟩) hbb x2) (a := ⟨w.heap.size, 3, none⟩) hbb x3) (a := ⟨w.heap.size, 4, none⟩) hbb x4
  have b5 := ((((HB.setCell (p := ⟨w.heap.size, 0, none⟩) (Nat.le_refl _) x0).setCell (p := ⟨w.heap.size, 1, none⟩) (Nat.le_refl _) x1).setCell (p := ⟨w.heap.size, 2, none⟩) (Nat.le_refl _) x2).setCell (p := ⟨w.heap.size, 3, none⟩) (Nat.le_refl _) x3).setCell (p := ⟨w.heap.size, 4, none⟩) (Nat.le_refl _) x4
  refine ⟨?_, ((b5.alloc b5.size _).alloc (by have := b5.size; simp only [World.size_alloc]; omega) _).alloc (by have := b5.size; simp only [World.size_alloc]; omega) _⟩
  subst hL
  exact NodesR.of_own (((o5.alloc _).alloc _).alloc _)
/-- What compact.RangeNodes does, as a hypothesis. -/
def RNodes (b e m : Nat) (P : List (Nat × Nat)) : Prop := ∀ (base : Nat) (v : Value) (n : Nat) (xs : List Value) (W : World), Tab W → W.ownsRow base 60 2 v n xs → base ≤ W.heap.size → v.ownBlock ≠ some 1 → Room n →
  Calls Tryf.prog 65 #[.int .u64 (b : Int), .int .u64 (e : Int), v] W (RetGrew W base 60 v (n + m) (xs ++ nodeCells P))
theorem nodeCells_append (L M : List (Nat × Nat)) : nodeCells (L ++ M) = nodeCells L ++ nodeCells M := by simp [nodeCells]
set_option maxHeartbeats 4000000 in
theorem nodes_core (l i s q x d F B E : Nat) (nl nr : Nat) (e1 : (s : Int) / 2 ^ l = (q : Int)) (e2 : bits .xor .u64 (i : Int) (q : Int) = (x : Int)) (hlen : Hid (∀ w, Calls Tryf.prog 59 #[.int .u64 x] w fun e w' => e = .returned (.int .i64 ((d + 1 : Nat) : Int)) ∧ w = w'))
    (e3 : (i : Int) / 2 ^ d = (F : Int)) (hld : (l : Int) + (d : Int) ≤ 63) (e4 : IntKind.u64.wrap ((F : Int) * 2 ^ (l + d)) = (B : Int)) (e5 : IntKind.u64.wrap (IntKind.u64.wrap ((F : Int) + 1) * 2 ^ (l + d)) = (E : Int))
    (hsz1 : Hid (∀ w, Calls Tryf.prog 62 #[.int .u64 0, .int .u64 B] w fun q w' => q = .returned (.int .i64 (nl : Nat)) ∧ w = w'))
    (hsz2 : Hid (∀ w, Calls Tryf.prog 62 #[.int .u64 E, .int .u64 s] w fun q w' => q = .returned (.int .i64 (nr : Nat)) ∧ w = w'))
    (hnl : (nl : Int) ≤ 128) (hnr : (nr : Int) ≤ 128) (hil : Hid (i < 18446744073709551616)) (P1 P0 : List (Nat × Nat)) (hrn1 : Hid (RNodes E s nr P1 ∧ P1.length = nr)) (hrn2 : Hid (RNodes 0 B nl P0 ∧ P0.length = nl)) (pb px l2 i2 : Nat)
    (hpb : Hid (pb = if nr = 0 then 0 else d + 1)) (hpx : Hid (px = if nr = 0 then 0 else d + 1 + nr)) (hl2 : Hid (l2 = l + d)) (hi2 : Hid (i2 = F ^^^ 1)) (hFl : Hid (F < 18446744073709551616))
    (w : World) (hT : Hid (Tab w)) : Calls Tryf.prog 37 #[.int .u64 i, .int .u64 l, .int .u64 s] w (RetPlanN w ((l, i) :: Pl.sibs l i d ++ P1.reverse ++ P0.reverse) pb px l2 i2) := by
  obtain ⟨i0, hi, hz0, hz1, hz2⟩ := info_parts idInfo
  have a1 : IntKind.u64.wrap ((d : Int)) = (d : Int) := wrapN d (by omega)
  have a2 : IntKind.u64.wrap ((l : Int) + (d : Int)) = (l : Int) + (d : Int) := by have := wrapN (l + d) (by omega); simpa using this
  have hml : min l 64 = l := by omega
  have hmd : min d 64 = d := by omega
  have hcov : Hid (∀ w, Calls Tryf.prog 61 #[.agg #[.int .u64 ((l : Int) + (d : Int)), .int .u64 (F : Int)]] w fun e w' => e = .returned (.tuple #[.int .u64 (B : Int), .int .u64 (E : Int)]) ∧ Below w.heap.size w w') := fun w => by
    have := coverage_c ((l : Int) + (d : Int)) F (by omega) hld w
    rw [show ((l : Int) + (d : Int)).toNat = l + d by omega, e4, e5] at this
    exact this
  clear e4 e5
  go_enter Tryf.func37, Tryf.ntmps37
  go_wp2_with fail
  refine (hlen.out _).mono ?_; rintro e w' ⟨rfl, rfl⟩
  go_wp2_with fail
  refine (newNode_c _ _ _).mono ?_; rintro e w' ⟨rfl, rfl⟩
  go_wp2_with fail
  refine (hcov.out _).mono ?_; rintro e w1 ⟨rfl, hb1⟩
  have hs1 := hb1.size
  simp only [World.size_alloc] at hs1
  have z1 : w.heap.size < w1.heap.size := by omega
  have z2 : w.heap.size + 1 + 1 < w1.heap.size := by omega
  have B1 : Below w.heap.size w w1 := ((((Below.refl _ _).alloc (Nat.le_refl _) _).alloc (by simp) _).alloc (by simp; omega) _).trans (hb1.mono (by simp; omega))
  have T1 : Hid (Tab w1) := hT.out.below B1
  have BR : Hid (Blk w1 w.heap.size 62 #[.slice none 0 0, .int .i64 0, .int .i64 0, .int .u64 0, .int .u64 0]) := (((Blk.new _ _ _).alloc _).alloc _).below' hb1
  have BF : Hid (Blk w1 (w.heap.size + 1 + 1) 60 #[.int .u64 ((l : Int) + (d : Int)), .int .u64 (F : Int)]) := (Blk.new' _ _ _ (by simp)).below' hb1
  have HTW : Hid (Tab w) := hT
  clear hb1 hT hs1
  go_wp2_with fail
  refine (hsz1.out _).mono ?_; rintro e w' ⟨rfl, rfl⟩
  go_wp2_with fail
  refine (hsz2.out _).mono ?_; rintro e w' ⟨rfl, rfl⟩
  go_wp2_with fail
  refine (newNode_c _ _ _).mono ?_; rintro e w' ⟨rfl, rfl⟩
  have BN : Hid (Blk ((w1.alloc (.cells #[.int .u64 (l : Int), .int .u64 (i : Int)] 60)).alloc (.cells #[.int .u64 (l : Int), .int .u64 (i : Int)] 60)) (w1.heap.size + 1) 60 #[.int .u64 (l : Int), .int .u64 (i : Int)]) := Blk.new' _ _ _ (by simp)
  go_wp2_with fail
  have T2 := T1.out.alloc (.cells #[.int .u64 (l : Int), .int .u64 (i : Int)] 60) |>.alloc (.cells #[.int .u64 (l : Int), .int .u64 (i : Int)] 60)
  have BR2 := BR.out.alloc (.cells #[.int .u64 (l : Int), .int .u64 (i : Int)] 60) |>.alloc (.cells #[.int .u64 (l : Int), .int .u64 (i : Int)] 60)
  have BF2 := BF.out.alloc (.cells #[.int .u64 (l : Int), .int .u64 (i : Int)] 60) |>.alloc (.cells #[.int .u64 (l : Int), .int .u64 (i : Int)] 60)
  have BN2 := BN.out
  have B2 : Below w.heap.size w ((w1.alloc (.cells #[.int .u64 (l : Int), .int .u64 (i : Int)] 60)).alloc (.cells #[.int .u64 (l : Int), .int .u64 (i : Int)] 60)) := (B1.alloc B1.size _).alloc (by simp; omega) _
  have z3 : w1.heap.size + 1 < ((w1.alloc (.cells #[.int .u64 (l : Int), .int .u64 (i : Int)] 60)).alloc (.cells #[.int .u64 (l : Int), .int .u64 (i : Int)] 60)).heap.size := by simp
  generalize (w1.alloc (.cells #[.int .u64 (l : Int), .int .u64 (i : Int)] 60)).alloc (.cells #[.int .u64 (l : Int), .int .u64 (i : Int)] 60) = w2 at T2 BR2 BF2 BN2 B2 z3 ⊢
  have z5 : w.heap.size + 1 + 1 < w1.heap.size + 1 := by omega
  generalize w1.heap.size + 1 = gn at BN2 z3 z5 ⊢
  have HT2 : Hid (Tab w2) := T2
  have HR2 : Hid (Blk w2 w.heap.size 62 #[.slice none 0 0, .int .i64 0, .int .i64 0, .int .u64 0, .int .u64 0]) := BR2
  have HF2 : Hid (Blk w2 (w.heap.size + 1 + 1) 60 #[.int .u64 ((l : Int) + (d : Int)), .int .u64 (F : Int)]) := BF2
  have HN2 : Hid (Blk w2 gn 60 #[.int .u64 (l : Int), .int .u64 (i : Int)]) := BN2
  clear BR BF BN T1 B1 z1 z2 T2 BR2 BF2 BN2
  obtain ⟨cp, hcp⟩ : ∃ cp, cp = 1 + d + nr + nl := ⟨_, rfl⟩
  have m1 : IntKind.i64.wrap (1 + (d : Int)) = 1 + (d : Int) := IntWalk.i64_in _ (by omega)
  have m2 : IntKind.i64.wrap (1 + (d : Int) + (nr : Int)) = 1 + (d : Int) + (nr : Int) := IntWalk.i64_in _ (by omega)
  have m3 : IntKind.i64.wrap (1 + (d : Int) + (nr : Int) + (nl : Int)) = (cp : Int) := by rw [IntWalk.i64_in _ (by omega)]; omega
  obtain ⟨MC, hMC⟩ : ∃ MC, MC = madeCells (Value.agg #[.int .u64 0, .int .u64 0]).cells (cp * 2) := ⟨_, rfl⟩
  have hms : MC.size = cp * 2 := by rw [hMC, size_madeCells]
  have hmk : ∀ W : World, (Instr.makeSlice 59 (.int .i64 0) (.int .i64 (cp : Int))).run Tryf.prog W = .ok (.slice (some ⟨W.heap.size, 0, none⟩) 0 cp) (W.alloc (.cells MC 60)) := fun W => by
    have := run_make_rowN (P := Tryf.prog) 59 60 i0 _ Tryf.underlying59 hi hz0 .i64 .i64 0 cp (by omega) (by rw [hz2]; omega) (by omega) W
    rw [hz1, ← hMC] at this
    simpa using this
  have hcpm : cp ≤ maxLen := by unfold maxLen; omega
  clear hMC hcp
  obtain ⟨n1, n2, n3, n4⟩ := HN2.out.two
  go_cut [14] (fun s14 wx => ∃ (g cap : Nat), s14 = .slice (some ⟨g, 0, none⟩) 1 cap ∧ Hid (wx.ownsRow w2.heap.size 60 2 (.slice (some ⟨g, 0, none⟩) 1 cap) 1 [.int .u64 (l : Int), .int .u64 (i : Int)]) ∧ Below w2.heap.size w2 wx)
  case first =>
    go_region_law (first | (refine step_append_lies _ (by rfl) (.tmp 51) (.tmp 53) 59 (by rfl) w2.heap.size 60 i0 _ 2 16 Tryf.underlying59 hi hz0 hz1 hz2 rfl (by decide) (.slice (some ⟨w2.heap.size, 0, none⟩) 0 cp) 0 [] (by rfl) ((own_made (Nat.le_refl _) hcpm hms rfl).alloc _) ⟨w2.heap.size + 1, 0, none⟩ 1 1 [.int .u64 (l : Int), .int .u64 (i : Int)] (by rfl) rfl (news_at (t := 60) (Blk.new' _ _ _ (by simp))) (by simp [Value.oneCell']) (by decide) (by decide) (by decide) (by simp; omega) _ rfl ?_; intro g cap w3 hown hgrow hat hlt; have HB3 : Below w2.heap.size w2 w3 := ((((Below.refl _ w2).alloc (Nat.le_refl _) _).alloc (by simp) _).drew).grown hgrow (by simp; omega) (by intro k hk; simp [Value.ownBlock] at hk; omega); clear hgrow hat) | (refine step_append_lies _ (by rfl) (.tmp 51) (.tmp 53) 59 (by rfl) w2.heap.size 60 i0 _ 2 16 Tryf.underlying59 hi hz0 hz1 hz2 rfl (by decide) (.slice (some ⟨w2.heap.size + 1, 0, none⟩) 0 cp) 0 [] (by rfl) (own_made (by simp) hcpm hms (by simp)) ⟨w2.heap.size, 0, none⟩ 1 1 [.int .u64 (l : Int), .int .u64 (i : Int)] (by rfl) rfl (news_at (t := 60) ((Blk.new' _ _ _ rfl).alloc _)) (by simp [Value.oneCell']) (by decide) (by decide) (by decide) (by simp; omega) _ rfl ?_; intro g cap w3 hown hgrow hat hlt; have HB3 : Below w2.heap.size w2 w3 := ((((Below.refl _ w2).alloc (Nat.le_refl _) _).alloc (by simp) _).drew).grown hgrow (by simp; omega) (by intro k hk; simp [Value.ownBlock] at hk; omega); clear hgrow hat))
    all_goals (go_wp2_with fail; go_meet; exact ⟨g, cap, rfl, hown, HB3⟩)
  case rest =>
    obtain ⟨g, cap, rfl, HO, HB3⟩ := hcut
    have HRc : Hid (Blk wc w.heap.size 62 #[.slice none 0 0, .int .i64 0, .int .i64 0, .int .u64 0, .int .u64 0]) := HR2.out.below' HB3
    have HFc : Hid (Blk wc (w.heap.size + 1 + 1) 60 #[.int .u64 ((l : Int) + (d : Int)), .int .u64 (F : Int)]) := HF2.out.below' HB3
    have HNc : Hid (Blk wc gn 60 #[.int .u64 (l : Int), .int .u64 (i : Int)]) := HN2.out.below' HB3
    have HBc : Below w.heap.size w wc := B2.trans (HB3.mono (by omega))
    have zc : gn < wc.heap.size := HNc.out.lt
    obtain ⟨hb0, hb0z⟩ : ∃ hb0, hb0 = w2.heap.size := ⟨_, rfl⟩
    have zb : gn < hb0 := by omega
    have zc2 : hb0 ≤ wc.heap.size := by rw [hb0z]; exact HB3.size
    rw [← hb0z] at HO
    clear HR2 HF2 HN2 HB3 B2 hb0z n1 n2 n3 n4 hmk hms m1 m2 m3 z3 hcpm
    go_wp2_with fail
    go_loopw [14] (fun nv wr => ∃ (k lk ik : Nat) (g cap : Nat), Hid (lk = l + k ∧ ik = i / 2 ^ k) ∧ k ≤ d ∧ nv = .slice (some ⟨g, 0, none⟩) (k + 1) cap ∧ Hid (wr.ownsRow hb0 60 2 (.slice (some ⟨g, 0, none⟩) (k + 1) cap) (k + 1) (nodeCells ((l, i) :: Pl.sibs l i k))) ∧
      Hid (Blk wr w.heap.size 62 #[.slice none 0 0, .int .i64 0, .int .i64 0, .int .u64 0, .int .u64 0]) ∧ Hid (Blk wr (w.heap.size + 1 + 1) 60 #[.int .u64 ((l : Int) + (d : Int)), .int .u64 (F : Int)]) ∧
      Hid (Blk wr gn 60 #[.int .u64 (lk : Int), .int .u64 (ik : Int)]) ∧ Below w.heap.size w wr ∧ hb0 ≤ wr.heap.size) (fun nv _ => d + 1 - (match nv with | .slice _ n _ => n | _ => 0))
    case atStart => exact ⟨0, l, i, g, cap, ⟨rfl, by simp⟩, by omega, rfl, Lib.hid (by simpa [nodeCells, Pl.sibs] using HO.out), HRc, HFc, HNc, HBc, zc2⟩
    case round =>
      obtain ⟨k, lk, ik, g, cap, HE, hk, rfl, HO, HR, HF, HN, HB, hz⟩ := hrel
      obtain ⟨n1, n2, n3, n4⟩ := HN.out.two
      obtain ⟨f1, f2, f3, f4⟩ := HF.out.two
      by_cases hkd : k < d
      · have hlk : (lk : Int) < (l : Int) + (d : Int) := by have := HE.out.1; omega
        have hlk1 : IntKind.u64.wrap ((lk : Int) + 1) = (lk : Int) + 1 := by have := wrapN (lk + 1) (by omega); simpa using this
        have hik : ik < 18446744073709551616 := by rw [HE.out.2]; exact Nat.lt_of_le_of_lt (Nat.div_le_self _ _) hil.out
        obtain ⟨sb, hsb⟩ : ∃ sb, sb = ik ^^^ 1 := ⟨_, rfl⟩
        have es : bits .xor .u64 (ik : Int) 1 = (sb : Int) := by rw [hsb]; exact u64_xor_nat ik 1 hik (by decide)
        have HS : Hid (nodeCells ((l, i) :: Pl.sibs l i (k + 1)) = nodeCells ((l, i) :: Pl.sibs l i k) ++ [.int .u64 (lk : Int), .int .u64 (sb : Int)]) := by
          show _ = _
          rw [Pl.sibs_snoc, ← List.cons_append, nodeCells_snoc, hsb, HE.out.1, HE.out.2]
        clear hsb
        have HG : Hid (hb0 ≤ g ∧ g < wr.heap.size) := HO.out.lt g rfl
        go_wp2_with fail
        refine (sibling_c _ _ _).mono ?_; rintro e w' ⟨rfl, rfl⟩
        simp only [es]
        go_wp2_with (first
          | (at_builtin
             refine wpList_append_own_at _ rfl (.tmp 62) (.tmp 65) 59 rfl hb0 60 i0 (.agg #[.int .u64 0, .int .u64 0]) 2 16 Tryf.underlying59 hi hz0 hz1 hz2 rfl (by decide) _ _ _ rfl ((((HO.out.alloc _).alloc _).alloc _).alloc _) ⟨wr.heap.size + 1 + 1 + 1, 0, none⟩ 1 1 [.int .u64 (lk : Int), .int .u64 (sb : Int)] rfl rfl (news_at (t := 60) (Blk.new' _ _ _ (by simp))) (by simp [Value.oneCell']) (by unfold maxLen; omega) (by omega) (by simp; omega) ?_
             intro v' w1 hown' hgrow _ hat
             obtain ⟨g', cap', rfl, _, _⟩ := hown'.form (by omega)
             have hng : some gn ≠ some g := by have := HG.out.1; simp; omega
             have HN1 : Hid (Blk w1 gn 60 #[.int .u64 (lk : Int), .int .u64 (ik : Int)]) := ((((HN.out.alloc _).alloc _).alloc _).alloc _).grown hgrow hng
             have HF1 : Hid (Blk w1 (w.heap.size + 1 + 1) 60 #[.int .u64 ((l : Int) + (d : Int)), .int .u64 (F : Int)]) := ((((HF.out.alloc _).alloc _).alloc _).alloc _).grown hgrow (show some (w.heap.size + 1 + 1) ≠ some g by have := HG.out.1; simp; omega)
             have HR1 : Hid (Blk w1 w.heap.size 62 #[.slice none 0 0, .int .i64 0, .int .i64 0, .int .u64 0, .int .u64 0]) := ((((HR.out.alloc _).alloc _).alloc _).alloc _).grown hgrow (show some w.heap.size ≠ some g by have := HG.out.1; simp; omega)
             have HB1 : Below w.heap.size w w1 := ((((HB.alloc HB.size _).alloc (by have := HB.size; simp; omega) _).alloc (by have := HB.size; simp; omega) _).alloc (by have := HB.size; simp; omega) _).grown hgrow (by have := HB.size; simp; omega) (fun k hk => by
               have hk' : some g = some k := hk
               injection hk' with hk'
               have := HG.out.1; omega)
             have hz1' : hb0 ≤ w1.heap.size := by have := hgrow.size; simp at this; omega
             clear hgrow hat n1 n2 n3 n4 f1 f2 f3 f4
             have HO1 : Hid (w1.ownsRow hb0 60 2 (.slice (some ⟨g', 0, none⟩) (k + 1 + 1) cap') (k + 1 + 1) (nodeCells ((l, i) :: Pl.sibs l i (k + 1)))) := Lib.hid (by rw [HS.out]; exact hown')
             clear hown'
             obtain ⟨n1, n2, n3, n4⟩ := HN1.out.two
             have zn : gn < w1.heap.size := HN1.out.lt
             have zn1 : gn < w1.heap.size + 1 := by omega
             have zn2 : gn < w1.heap.size + 1 + 1 := by omega)
          | (go_at_call 63; refine (parent_c _ _ _).mono ?_; rintro e w' ⟨rfl, rfl⟩; simp only [hlk1]))
        go_roundw
        case rel =>
          have HN2 := (((((HN1.out.set_ 0 (.int .u64 ((lk : Int) + 1))).set_ 1 (.int .u64 ((ik : Int) / 2))).alloc (.cells #[.int .u64 (lk : Int), .int .u64 (ik : Int)] 60)).alloc (.cells #[.int .u64 ((lk : Int) + 1), .int .u64 ((ik : Int) / 2)] 60)).alloc (.cells #[.int .u64 ((lk : Int) + 1), .int .u64 ((ik : Int) / 2)] 60))
          have nb1 : w.heap.size + 1 + 1 ≠ gn := by omega
          have nb2 : w.heap.size ≠ gn := by omega
          have nb3 : w.heap.size ≤ gn := by omega
          have HB2 := (HB1.setCell (p := ⟨gn, 0, none⟩) nb3 (.int .u64 ((lk : Int) + 1))).setCell (p := ⟨gn, 1, none⟩) nb3 (.int .u64 ((ik : Int) / 2))
          refine ⟨k + 1, lk + 1, ik / 2, g', cap', ⟨by have := HE.out.1; omega, by rw [HE.out.2, Nat.div_div_eq_div_mul, Nat.pow_succ]⟩, by omega, rfl, ?_, ?_, ?_, ?_, ?_, ?_⟩
          · exact (((ownsRow_setCell_below (ownsRow_setCell_below HO1.out (a := ⟨gn, 0, none⟩) zb _) (a := ⟨gn, 1, none⟩) zb _).alloc _).alloc _).alloc _
          · exact ((((HR1.out.far (p := ⟨gn, 0, none⟩) nb2 _).far (p := ⟨gn, 1, none⟩) nb2 _).alloc _).alloc _).alloc _
          · exact ((((HF1.out.far (p := ⟨gn, 0, none⟩) nb1 _).far (p := ⟨gn, 1, none⟩) nb1 _).alloc _).alloc _).alloc _
          · exact Lib.hid (by simpa using HN2)
          · exact (((HB2.alloc HB2.size _).alloc (by have := HB2.size; simp only [World.size_alloc]; omega) _).alloc (by have := HB2.size; simp only [World.size_alloc]; omega) _)
          · simp [World.setCell]; omega
        case measure => simp; omega
      · have hlk : ¬ (lk : Int) < (l : Int) + (d : Int) := by have := HE.out.1; omega
        obtain rfl : k = d := by omega
        generalize hX1 : (l, i) :: Pl.sibs l i k = X1 at HO
        have HXX : Hid ((l, i) :: Pl.sibs l i k = X1) := hX1
        generalize hc1 : k + 1 = c1 at HO ⊢
        have HX1 : Hid (X1.length = c1) := Lib.hid (by rw [← hX1, List.length_cons, Pl.sibs_length, hc1])
        obtain ⟨N1, hN1⟩ : ∃ n, n = c1 + nr := ⟨_, rfl⟩
        obtain ⟨N2, hN2⟩ : ∃ n, n = N1 + nl := ⟨_, rfl⟩
        have hk1 : c1 ≤ 128 := by omega
        have hk0 : 1 ≤ c1 := by omega
        have HPB : Hid (pb = if nr = 0 then 0 else c1) := Lib.hid (by rw [← hc1]; exact hpb.out)
        have HPX : Hid (px = if nr = 0 then 0 else N1) := Lib.hid (by rw [hN1, ← hc1]; exact hpx.out)
        have htab : 1 < w.heap.size := World.block_lt_of_cell? w _ (HTW.out 0 (by omega))
        have HG : Hid (hb0 ≤ g ∧ g < wr.heap.size) := HO.out.lt g rfl
        have m5 : IntKind.i64.wrap ((N1 : Int) - (nr : Int)) = (c1 : Int) := by rw [IntWalk.i64_in _ (by omega)]; omega
        have m6 : IntKind.i64.wrap ((N2 : Int) - (nl : Int)) = (N1 : Int) := by rw [IntWalk.i64_in _ (by omega)]; omega
        have HN12 : Hid (N1 = c1 + nr ∧ N2 = N1 + nl) := ⟨hN1, hN2⟩
        have hNb : N1 ≤ 1000 := by omega
        have hNb2 : N2 ≤ 1000 := by omega
        have hN12 : c1 ≤ N1 := by omega
        have hN22 : N1 ≤ N2 := by omega
        clear hX1 hc1 hN1 hN2 hpb hpx HE hkd HRc HFc HNc HBc zc zc2
        go_wp2_with fail
        clear n1 n2 n3 n4 f1 f2 f3 f4 HN
        refine (hrn1.out.1 hb0 _ _ _ _ (HTW.out.below HB) HO.out hz (show some g ≠ some _ by have := HG.out.1; simp; omega) (show c1 ≤ _ by omega)).mono ?_
        rintro e w3 ⟨v3, rfl, hG3⟩
        rw [← HN12.out.1] at hG3
        have own3 : w3.ownsRow hb0 60 2 v3 N1 (nodeCells (X1 ++ P1)) := by rw [nodeCells_append]; exact hG3.own
        obtain ⟨g3, cap3, rfl, hg3a, hg3b⟩ := own3.form (by omega)
        have hcap3 : N1 ≤ cap3 := by
          obtain ⟨_, _, e, hc⟩ := own_slice own3
          injection e with _ _ e; omega
        have HR3 : Hid (Blk w3 w.heap.size 62 #[.slice none 0 0, .int .i64 0, .int .i64 0, .int .u64 0, .int .u64 0]) := HR.out.grown hG3.grown (show some w.heap.size ≠ some g by have := HG.out.1; simp; omega)
        have HF3 : Hid (Blk w3 (w.heap.size + 1 + 1) 60 #[.int .u64 ((l : Int) + (k : Int)), .int .u64 (F : Int)]) := HF.out.grown hG3.grown (show some (w.heap.size + 1 + 1) ≠ some g by have := HG.out.1; simp; omega)
        have HB3 : Below w.heap.size w w3 := HB.grown hG3.grown HB.size (fun b hb => by have hb' : some g = some b := hb; injection hb' with hb'; have := HG.out.1; omega)
        have hz3 : hb0 ≤ w3.heap.size := Nat.le_trans hz hG3.grown.size
        have HO3 : Hid (w3.ownsRow hb0 60 2 (.slice (some ⟨g3, 0, none⟩) N1 cap3) N1 (nodeCells (X1 ++ P1))) := own3
        have sl3 := slice_tailN g3 c1 nr N1 cap3 HN12.out.1
        clear own3 hG3 HR HF HB hz HO HG
        go_wp2_with fail
        clear sl3
        refine (reverse_tail hb0 g3 c1 nr N1 cap3 HN12.out.1 X1 P1 HX1.out hrn1.out.2 w3 HO3.out hcap3 (show N1 ≤ _ by omega)).mono ?_
        rintro e w4 ⟨rfl, own4, hg4⟩
        have HR4 : Hid (Blk w4 w.heap.size 62 #[.slice none 0 0, .int .i64 0, .int .i64 0, .int .u64 0, .int .u64 0]) := HR3.out.grown hg4 (show some w.heap.size ≠ some g3 by simp; omega)
        have HF4 : Hid (Blk w4 (w.heap.size + 1 + 1) 60 #[.int .u64 ((l : Int) + (k : Int)), .int .u64 (F : Int)]) := HF3.out.grown hg4 (show some (w.heap.size + 1 + 1) ≠ some g3 by simp; omega)
        have HB4 : Below w.heap.size w w4 := HB3.grown hg4 HB3.size (fun b hb => by injection hb with hb; omega)
        have hz4 : hb0 ≤ w4.heap.size := Nat.le_trans hz3 hg4.size
        have HO4 : Hid (w4.ownsRow hb0 60 2 (.slice (some ⟨g3, 0, none⟩) N1 cap3) N1 (nodeCells (X1 ++ P1.reverse))) := own4
        clear own4 hg4 HR3 HF3 HB3 hz3 HO3
        go_wp2_with fail
        refine (hrn2.out.1 hb0 _ _ _ _ (HTW.out.below HB4) HO4.out hz4 (show some g3 ≠ some _ by simp; omega) (show N1 ≤ _ by omega)).mono ?_
        rintro e w5 ⟨v5, rfl, hG5⟩
        rw [← HN12.out.2] at hG5
        have own5 : w5.ownsRow hb0 60 2 v5 N2 (nodeCells ((X1 ++ P1.reverse) ++ P0)) := by rw [nodeCells_append _ P0]; exact hG5.own
        obtain ⟨g5, cap5, rfl, hg5a, hg5b⟩ := own5.form (by omega)
        have hcap5 : N2 ≤ cap5 := by
          obtain ⟨_, _, e, hc⟩ := own_slice own5
          injection e with _ _ e; omega
        have HR5 : Hid (Blk w5 w.heap.size 62 #[.slice none 0 0, .int .i64 0, .int .i64 0, .int .u64 0, .int .u64 0]) := HR4.out.grown hG5.grown (show some w.heap.size ≠ some g3 by simp; omega)
        have HF5 : Hid (Blk w5 (w.heap.size + 1 + 1) 60 #[.int .u64 ((l : Int) + (k : Int)), .int .u64 (F : Int)]) := HF4.out.grown hG5.grown (show some (w.heap.size + 1 + 1) ≠ some g3 by simp; omega)
        have HB5 : Below w.heap.size w w5 := HB4.grown hG5.grown HB4.size (fun b hb => by have hb' : some g3 = some b := hb; injection hb' with hb'; omega)
        have HO5 : Hid (w5.ownsRow hb0 60 2 (.slice (some ⟨g5, 0, none⟩) N2 cap5) N2 (nodeCells ((X1 ++ P1.reverse) ++ P0))) := own5
        have sl5 := slice_tailN g5 N1 nl N2 cap5 HN12.out.2
        have HX3 : Hid ((X1 ++ P1.reverse).length = N1) := Lib.hid (by rw [List.length_append, List.length_reverse, HX1.out, hrn1.out.2, HN12.out.1])
        clear own5 hG5 HR4 HF4 HB4 hz4 HO4
        go_wp2_with fail
        clear sl5
        refine (reverse_tail hb0 g5 N1 nl N2 cap5 HN12.out.2 (X1 ++ P1.reverse) P0 HX3.out hrn2.out.2 w5 HO5.out hcap5 (show N2 ≤ _ by omega)).mono ?_
        rintro e w6 ⟨rfl, own6, hg6⟩
        have HR6 : Hid (Blk w6 w.heap.size 62 #[.slice none 0 0, .int .i64 0, .int .i64 0, .int .u64 0, .int .u64 0]) := HR5.out.grown hg6 (show some w.heap.size ≠ some g5 by simp; omega)
        have HF6 : Hid (Blk w6 (w.heap.size + 1 + 1) 60 #[.int .u64 ((l : Int) + (k : Int)), .int .u64 (F : Int)]) := HF5.out.grown hg6 (show some (w.heap.size + 1 + 1) ≠ some g5 by simp; omega)
        have HB6 : Below w.heap.size w w6 := HB5.grown hg6 HB5.size (fun b hb => by injection hb with hb; omega)
        have HO6 : Hid (w6.ownsRow hb0 60 2 (.slice (some ⟨g5, 0, none⟩) N2 cap5) N2 (nodeCells (X1 ++ P1.reverse ++ P0.reverse))) := own6
        have HXl : Hid ((X1 ++ P1.reverse ++ P0.reverse).length = N2) := Lib.hid (by rw [List.length_append, List.length_reverse, HX3.out, hrn2.out.2, HN12.out.2])
        have hg5b : g5 < w6.heap.size := Nat.lt_of_lt_of_le hg5b hg6.size
        clear own6 hg6 HR5 HF5 HB5 HO5 m5 m6 hrn1 hrn2 hsz1 hsz2 hcov hlen
        have es2 : bits .xor .u64 (F : Int) 1 = (i2 : Int) := by rw [hi2.out]; exact u64_xor_nat F 1 hFl.out (by decide)
        obtain ⟨f1, f2, f3, f4⟩ := HF6.out.two
        obtain ⟨r1, r2, r3, r4, r5, r6, r7, r8, r9, r10⟩ := HR6.out.five
        have zr : w.heap.size < w6.heap.size := HR6.out.lt
        have zr1 : w.heap.size < w6.heap.size + 1 := by omega
        have zr2 : w.heap.size < w6.heap.size + 1 + 1 := by omega
        have hbb : w.heap.size < hb0 := by omega
        by_cases h0 : nr = 0
        · have HP : Hid (pb = 0 ∧ px = 0) := ⟨by rw [HPB.out, if_pos h0], by rw [HPX.out, if_pos h0]⟩
          have ht : (N1 : Int) ≤ (c1 : Int) := by have := HN12.out.1; omega
          clear h0
          go_wp2_with (go_at_call 64; refine (sibling_c _ _ _).mono ?_; rintro e w' ⟨rfl, rfl⟩; simp only [es2])
          have HF := nodes_fin HXl.out hbb HO6.out HB6
          rw [← HXX.out] at HF
          refine bodyPost_ret (v := .agg #[.slice (some ⟨g5, 0, none⟩) N2 cap5, .int .i64 0, .int .i64 0, .int .u64 ((l : Int) + (k : Int)), .int .u64 (i2 : Int)]) (by simp [results, Tryf.results37, go_sem, r1, r2, r3, r4, r5, zr, zr1, zr2]) rfl ⟨_, ?_, (HF _ _ _ _ _ _ _ _).1, (HF _ _ _ _ _ _ _ _).2, fun a n c e => by injection e with e; injection e with e; subst e; show w.heap.size ≤ g5; omega⟩
          rw [HP.out.1, HP.out.2, hl2.out]; simp
        · have HP : Hid (pb = c1 ∧ px = N1) := ⟨by rw [HPB.out, if_neg h0], by rw [HPX.out, if_neg h0]⟩
          have ht : ¬ (N1 : Int) ≤ (c1 : Int) := by have := HN12.out.1; omega
          clear h0
          go_wp2_with (go_at_call 64; refine (sibling_c _ _ _).mono ?_; rintro e w' ⟨rfl, rfl⟩; simp only [es2])
          have HF := nodes_fin HXl.out hbb HO6.out HB6
          rw [← HXX.out] at HF
          refine bodyPost_ret (v := .agg #[.slice (some ⟨g5, 0, none⟩) N2 cap5, .int .i64 (c1 : Int), .int .i64 (N1 : Int), .int .u64 ((l : Int) + (k : Int)), .int .u64 (i2 : Int)]) (by simp [results, Tryf.results37, go_sem, r1, r2, r3, r4, r5, zr, zr1, zr2]) rfl ⟨_, ?_, (HF _ _ _ _ _ _ _ _).1, (HF _ _ _ _ _ _ _ _).2, fun a n c e => by injection e with e; injection e with e; subst e; show w.heap.size ≤ g5; omega⟩
          rw [HP.out.1, HP.out.2, hl2.out]; simp
end Go.Proofs.YtobnmgnnidhfkaaFmt
/- proof.nodes: its contract; proof.Nodes.skipFirst. -/
namespace Go.Proofs.YtobnmgnnidhfkaaFmt
open Go.ChangeShapes Go.WideShapes Go.ChangeAt Go.RowKit
theorem nodes_c (l i s : Nat) (h : i < s / 2 ^ l) (hs : s < 18446744073709551616) (w : World) (hT : Tab w) :
    Calls Tryf.prog 37 #[.int .u64 i, .int .u64 l, .int .u64 s] w (RetPlanN w (Pl.planL l i s) (Pl.planB l i s) (Pl.planE l i s) (l + Pl.up l i s) (Pl.ephI l i s)) := by
  obtain ⟨u1, u2, u3, u4, u5⟩ := Pl.up_spec h hs
  have hil : i < 18446744073709551616 := Nat.lt_of_lt_of_le h (Nat.le_trans (Nat.div_le_self _ _) (by omega))
  have hq : s / 2 ^ l < 18446744073709551616 := Nat.lt_of_le_of_lt (Nat.div_le_self _ _) hs
  have hxl : i ^^^ (s / 2 ^ l) < 18446744073709551616 := Nat.xor_lt_two_pow (n := 64) hil hq
  have hx0 : i ^^^ (s / 2 ^ l) ≠ 0 := Pl.xor_ne (by omega)
  have hb := Pl.blen_pos hx0
  have hup : bitLen (i ^^^ (s / 2 ^ l)) = Pl.up l i s + 1 := by unfold Pl.up Pl.cut; omega
  have hFl : i / 2 ^ Pl.up l i s < 18446744073709551616 := Nat.lt_of_le_of_lt (Nat.div_le_self _ _) hil
  have hE : Pl.fend l i (Pl.up l i s) < 18446744073709551616 := by omega
  have hp2 := Nat.two_pow_pos (l + Pl.up l i s)
  have hB : Pl.fbeg l i (Pl.up l i s) < 18446744073709551616 := by omega
  have l1 := Pl.pieces_len (Pl.fend l i (Pl.up l i s)) s hs
  have l0 := Pl.pieces_len 0 (Pl.fbeg l i (Pl.up l i s)) hB
  refine nodes_core l i s (s / 2 ^ l) (i ^^^ (s / 2 ^ l)) (Pl.up l i s) (i / 2 ^ Pl.up l i s) (Pl.fbeg l i (Pl.up l i s)) (Pl.fend l i (Pl.up l i s)) (Pl.pieces 0 (Pl.fbeg l i (Pl.up l i s))).length (Pl.pieces (Pl.fend l i (Pl.up l i s)) s).length
    (by simp) (u64_xor_nat i (s / 2 ^ l) hil hq) (Lib.hid fun w => by have := len_c _ hxl w; rwa [hup] at this) (by simp) (by omega) ?_ ?_
    (Lib.hid fun w => size_c 0 _ (Nat.zero_le _) hB w) (Lib.hid fun w => size_c _ _ u4 hs w) (by omega) (by omega) hil _ _
    (Lib.hid ⟨fun base v n xs W a b c d e => rangeNodes_c _ _ u4 hs base v n xs W a b c d e, rfl⟩) (Lib.hid ⟨fun base v n xs W a b c d e => rangeNodes_c _ _ (Nat.zero_le _) hB base v n xs W a b c d e, rfl⟩)
    _ _ _ _ rfl rfl rfl rfl hFl w hT
  · have := wrapN _ hB
    unfold Pl.fbeg at this ⊢
    simpa using this
  · have h1 := wrapN (i / 2 ^ Pl.up l i s + 1) (by
      have : (i / 2 ^ Pl.up l i s + 1) * 1 ≤ (i / 2 ^ Pl.up l i s + 1) * 2 ^ (l + Pl.up l i s) := Nat.mul_le_mul_left _ (Nat.two_pow_pos _)
      unfold Pl.fend at hE
      omega)
    have h2 := wrapN _ hE
    unfold Pl.fend at h2 ⊢
    have e1 : ((i / 2 ^ Pl.up l i s : Nat) : Int) + 1 = ((i / 2 ^ Pl.up l i s + 1 : Nat) : Int) := by simp
    rw [e1, h1]
    simpa using h2
/-- The part's place, one entry nearer. -/
def sk (b x : Nat) : Nat := if b < x then b - 1 else b
def skE (b x : Nat) : Nat := if b < x then x - 1 else x
theorem tail_nodes {w : World} {A : Option Addr} {n cap : Nat} {p : Nat × Nat} {L : List (Nat × Nat)} (h : NodesR w (.slice A n cap) (p :: L)) :
    NodesR w (.slice (if cap = 1 then A else A.map (·.add (1 * 2))) (n - 1) (cap - 1)) L ∧ n = L.length + 1 ∧ n ≤ cap := by
  obtain ⟨A', cap', e, hc, hat⟩ := h
  injection e with e1 e2 e3
  subst e1 e2 e3
  obtain ⟨g, o, rfl, h⟩ := hat (by simp)
  refine ⟨⟨_, _, rfl, by simp at hc ⊢; omega, fun hl => ?_⟩, by simp, hc⟩
  rw [if_neg (by simp at hc; omega)]
  refine ⟨g, o + 2, by simp [add_plain], fun k hk => ?_⟩
  have := h (k + 1) (by simp; omega)
  rw [show o + 2 + k * 2 = o + (k + 1) * 2 by omega]
  simpa using this
/-- What skipFirst gives. -/
def RetSkip (w : World) (base : Nat) (L : List (Nat × Nat)) (b x l i : Nat) (e : Ending) (w' : World) : Prop :=
  ∃ v, e = .returned (.agg #[v, .int .i64 (b : Int), .int .i64 (x : Int), .int .u64 (l : Int), .int .u64 (i : Int)]) ∧ NodesR w' v L ∧ Below w.heap.size w w' ∧ Fresh base v
theorem skip_c (base : Nat) (v : Value) (p : Nat × Nat) (L : List (Nat × Nat)) (b x l i : Nat) (w : World) (hv : NodesR w v (p :: L)) (hb : b ≤ 1000) (hx : x ≤ 1000) (hb0 : b < x → 1 ≤ b) (hf : Fresh base v) :
    Calls Tryf.prog 38 #[.agg #[v, .int .i64 (b : Int), .int .i64 (x : Int), .int .u64 (l : Int), .int .u64 (i : Int)]] w (RetSkip w base L (sk b x) (skE b x) l i) := by
  have hv0 := hv
  obtain ⟨A, cap, rfl, hcap, _⟩ := hv0
  obtain ⟨ht, hn, _⟩ := tail_nodes hv
  clear hn
  have hsl : ∀ W : World, (Instr.slice 59 (.slice A (p :: L).length cap) (some (.int .i64 1)) none none).run Tryf.prog W = .ok (.slice (if cap = 1 then A else A.map (·.add (1 * 2))) ((p :: L).length - 1) (cap - 1)) W := fun W => by
    rw [run_slice_l W 59 _ _ _ (by rw [elemId]; exact Tryf.underlying59) .i64 1 (by omega) (by simp <;> omega), elemId, sizeId]
    rfl
  have HFr : Hid (Fresh base (.slice (if cap = 1 then A else A.map (·.add (1 * 2))) ((p :: L).length - 1) (cap - 1))) := Lib.hid (by
    intro a n c e
    injection e with e
    by_cases hc1 : cap = 1
    · rw [if_pos hc1] at e; exact hf a _ _ (by rw [e])
    · rw [if_neg hc1] at e
      cases A with
      | none => cases e
      | some a0 =>
        have := hf a0 _ _ rfl
        simp only [Option.map_some] at e
        injection e with e
        subst e
        rw [Go.ChangeShapes.block_add]; exact this)
  clear hf
  generalize (if cap = 1 then A else A.map (·.add (1 * 2))) = A2 at ht hsl HFr
  generalize (p :: L).length - 1 = n2 at ht hsl HFr
  generalize (p :: L).length = n1 at hsl hcap hv ⊢
  generalize cap - 1 = c2 at ht hsl HFr
  have HT : Hid (NodesR w (.slice A2 n2 c2) L) := ht
  clear ht hcap hv
  by_cases hbx : b < x
  · have h1 : (b : Int) < (x : Int) := by omega
    have h2 := hb0 hbx
    have e1 : IntKind.i64.wrap ((b : Int) - 1) = (b : Int) - 1 := IntWalk.i64_in _ (by omega)
    have e2 : IntKind.i64.wrap ((x : Int) - 1) = (x : Int) - 1 := IntWalk.i64_in _ (by omega)
    have HS : Hid (((sk b x : Nat) : Int) = (b : Int) - 1 ∧ ((skE b x : Nat) : Int) = (x : Int) - 1) := Lib.hid (by unfold sk skE; rw [if_pos hbx, if_pos hbx]; omega)
    go_enter Tryf.func38, Tryf.ntmps38
    go_wp2
    refine bodyPost_ret (v := .agg #[.slice A2 n2 c2, .int .i64 ((b : Int) - 1), .int .i64 ((x : Int) - 1), .int .u64 (l : Int), .int .u64 (i : Int)]) (by simp [results, Tryf.results38, go_sem]) rfl ⟨.slice A2 n2 c2, by rw [HS.out.1, HS.out.2], ?_, ?_⟩
    · exact HT.out.below (((Below.refl _ _).alloc (Nat.le_refl _) _).alloc (by simp) _)
    · exact ⟨((Below.refl _ _).alloc (Nat.le_refl _) _).alloc (by simp) _, HFr.out⟩
  · have h1 : ¬ (b : Int) < (x : Int) := by omega
    have HS : Hid (((sk b x : Nat) : Int) = (b : Int) ∧ ((skE b x : Nat) : Int) = (x : Int)) := Lib.hid (by unfold sk skE; rw [if_neg hbx, if_neg hbx]; exact ⟨rfl, rfl⟩)
    go_enter Tryf.func38, Tryf.ntmps38
    go_wp2
    refine bodyPost_ret (v := .agg #[.slice A2 n2 c2, .int .i64 (b : Int), .int .i64 (x : Int), .int .u64 (l : Int), .int .u64 (i : Int)]) (by simp [results, Tryf.results38, go_sem]) rfl ⟨.slice A2 n2 c2, by rw [HS.out.1, HS.out.2], ?_, ?_⟩
    · exact HT.out.below (((Below.refl _ _).alloc (Nat.le_refl _) _).alloc (by simp) _)
    · exact ⟨((Below.refl _ _).alloc (Nat.le_refl _) _).alloc (by simp) _, HFr.out⟩
end Go.Proofs.YtobnmgnnidhfkaaFmt
