/- compact.Range.Append with the visitor of impl.grow. -/
import Derived.Test.YtpdmmmcelkinjaaFmtAppG
import Derived.Test.YtpdmmmcelkinjaaFmtRootW
import Derived.Test.YtpdmmmcelkinjaaFmtJoinP
namespace Go.Proofs.YtpdmmmcelkinjaaFmt
open Go.ChangeShapes Go.WideShapes Go.ChangeAt Go.RowKit
set_option maxRecDepth 20000
set_option maxHeartbeats 2000000 in
theorem append_G (h : Pl.HF) (ok : h.ok) (f : Nat → List Nat) (g gf base b m : Nat) (hv : Value) (gu ou cu : Nat) (gv : Nat) (av : Value) (S : List SeenN) (w : World) (hb : b ≤ m) (he : m + 1 < 9223372036854775808) (hT : Tab w) (htb : 0 < base) (hR : RangeB w g gf h b m hv) (hB : BuiltT w base hv (Pl.ph h f b m)) (hbg : base ≤ g) (hs : BytesT w (.slice (some ⟨gu, ou, none⟩) 2 cu) (f m)) (hl : (f m).length = 2) (hgv : Blk w gv 29 #[av]) (hS : SeenB w base av S) (hbgv : base ≤ gv) (hSn : S.length ≤ 800000) :
    Calls Tryf.prog 36 #[.pointer (some ⟨g, 0, none⟩), .slice (some ⟨gu, ou, none⟩) 2 cu, .func (.func 49) #[] #[.pointer (some ⟨gv, 0, none⟩)]] w fun r w' => r = .returned .nilIface ∧ KeepT [82, 28, 47, 29] w w' ∧ Below base w w' ∧ ∃ hv', RangeB w' g gf h b (m + 1) hv' ∧ BuiltT w' base hv' (Pl.ph h f b (m + 1)) ∧ ∃ av', Blk w' gv 29 #[av'] ∧ SeenB w' base av' (S ++ Pl.grownS h f b m) := by
  obtain ⟨j1, j2, j3, j4, j5⟩ := Pl.leaf_law h f hb (by omega)
  have hn : (Pl.ph h f b m).length ≤ 1000 := by rw [Pl.ph_length]; have := Pl.pieces_len b m (by omega); omega
  have cg2 : w.cell? ⟨g, 2, none⟩ = some (.int .u64 (m : Int)) := hR.1.cell 2
  have hlt : g < w.heap.size := hR.1.lt
  have HRR := Lib.hid hR
  have hbw : base ≤ w.heap.size := by omega
  have KN : KeepT [] w (w.alloc (.cells #[.int .u64 0, .int .u64 (m : Int)] 70)) := (KeepT.refl _ _).alloc _
  have BN : Below base w (w.alloc (.cells #[.int .u64 0, .int .u64 (m : Int)] 70)) := (Below.refl _ _).alloc hbw _
  have HVIS := Lib.hid (growVisit 0 m gu ou cu (f m) gv base S av (w.alloc (.cells #[.int .u64 0, .int .u64 (m : Int)] 70)) (hs.keep KN (by simp)) hl (hS.keep KN (by simp) (by simp)) (KN.blk hgv (by simp)) (by omega) hbgv)
  have HAPP := Lib.hid (fun (W : World) (av1 : Value) (hK : KeepT [47, 29] w W) (hBl : Below base w W) (hg1 : Blk W gv 29 #[av1]) (hS1 : SeenB W base av1 (S ++ [(0, m, f m)])) => appG h ok g gf base b m (m + 1) hv (Pl.ph h f b m) gu ou cu (f m) gv av1 (S ++ [(0, m, f m)]) W hb (by omega) (by omega) (hT.under hBl htb) (hR.keep hK (by decide) (by decide)) (hB.keep hK (by decide) (by decide)) hbg (hs.keep hK (by decide)) hl hn hg1 hS1 hbgv (by simp; omega) j2 j3 j4)
  rw [j1] at HAPP
  have w1 : IntKind.u64.wrap ((m : Int) + 1) = ((m + 1 : Nat) : Int) := by rw [IntKind.wrap_u64]; omega
  have HM1 : Hid (((m + 1 : Nat) : Int) = ((m + 1 : Nat) : Int)) := Lib.hid rfl
  generalize m + 1 = m1 at *
  have nf := nf_fun 49 #[] #[.pointer (some ⟨gv, 0, none⟩)]
  have J5 := Lib.hid j5
  clear hR hB hs hT hgv hS j1 j2 j3 j4 j5 hn
  go_enter Tryf.func36, Tryf.ntmps36
  go_wp2_with fail
  refine (newNode_c _ _ _).mono ?_; rintro r w2 ⟨rfl, rfl⟩
  go_wp2_with fail
  refine HVIS.out.mono ?_; rintro r w3 ⟨rfl, av3, HS3, HG3, HK3, HB3⟩
  have K3 := (KN.mono (by simp)).trans HK3
  have B3 := BN.trans HB3
  have cg3 : w3.cell? ⟨g, 2, none⟩ = some (.int .u64 (m : Int)) := (HRR.out.keep K3 (by decide) (by decide)).1.cell 2
  go_wp2_with fail
  refine (HAPP.out w3 av3 K3 B3 HG3 HS3).mono ?_; rintro r w4 ⟨rfl, k1, k2, hv4, k3, k4, av4, k5, k6⟩
  go_wp2_with fail
  go_ret
  exact ⟨rfl, (K3.mono (by decide)).trans k1, B3.trans k2, hv4, k3, k4, av4, k5, by rw [← J5.out, ← List.append_assoc]; exact k6⟩
end Go.Proofs.YtpdmmmcelkinjaaFmt
