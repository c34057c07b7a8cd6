/- proof.RootFromInclusionProof, proof.VerifyInclusion and the thin functions where they answer an error; impl.RootFromInclusionProof. -/
import Derived.Test.YtobnmgnnidhfkaaFmtErr
import Derived.Test.YtobnmgnnidhfkaaFmtImplVer
import Derived.Test.YtobnmgnnidhfkaaFmtCd
namespace Go.Proofs.YtobnmgnnidhfkaaFmt
open Go.ChangeShapes Go.WideShapes Go.ChangeAt Go.RowKit
set_option maxRecDepth 20000
theorem fmtBeyond : Fmt2 ⟨#[105, 110, 100, 101, 120, 32, 105, 115, 32, 98, 101, 121, 111, 110, 100, 32, 115, 105, 122, 101, 58, 32, 37, 100, 32, 62, 61, 32, 37, 100]⟩ := ⟨by kernel_rfl, fun w => by kernel_rfl⟩
theorem fmtLeaf : Fmt2 ⟨#[108, 101, 97, 102, 72, 97, 115, 104, 32, 104, 97, 115, 32, 117, 110, 101, 120, 112, 101, 99, 116, 101, 100, 32, 115, 105, 122, 101, 32, 37, 100, 44, 32, 119, 97, 110, 116, 32, 37, 100]⟩ := ⟨by kernel_rfl, fun w => by kernel_rfl⟩
theorem fmtWrong : Fmt2 ⟨#[119, 114, 111, 110, 103, 32, 112, 114, 111, 111, 102, 32, 115, 105, 122, 101, 32, 37, 100, 44, 32, 119, 97, 110, 116, 32, 37, 100]⟩ := ⟨by kernel_rfl, fun w => by kernel_rfl⟩
/-- No bytes, and a new error. -/
def RetErrT (w : World) (e : Ending) (w' : World) : Prop := (∃ g, e = .returned (.tuple #[.slice none 0 0, .iface 137 (.pointer (some ⟨g, 0, none⟩))])) ∧ Below w.heap.size w w'
/-- What makes an inclusion proof's root an error. -/
def BadIncl (i s : Nat) (ll : List Nat) (L : List (List Nat)) : Prop := s ≤ i ∨ ¬ ll.length = 2 ∨ ¬ L.length = (Pl.dirs i s).length
theorem root_err (F : Stop.Interp) (h : Pl.HF) (i s : Nat) (_hi : i < 18446744073709551616) (hs : s < 18446744073709551616) (lv v : Value) (ll : List Nat) (L : List (List Nat)) (w : World) (hF : F.answers w.tape) (hlv : BytesR w lv ll) (hv : HashesR w v L) (hbad : BadIncl i s ll L) :
    Calls Tryf.prog 19 #[hasherV h, .int .u64 (i : Int), .int .u64 (s : Int), lv, v] w (RetErrT w) := by
  have HF := Lib.hid (fun (W : World) (hb : Below w.heap.size w W) => ans_below hF hb)
  obtain ⟨A, cap, rfl, hc8⟩ := id hv
  obtain ⟨Al, cl, rfl, hc9⟩ := id hlv
  clear hF hv hlv hc8 hc9
  by_cases hg : s ≤ i
  · have hg1 : (s : Int) ≤ (i : Int) := by omega
    clear hbad _hi hs hg
    go_enter Tryf.func19, Tryf.ntmps19
    go_wp2_with fail
    have B1 := ((Below.refl w.heap.size w).alloc (Nat.le_refl _) (.cells #[.iface 25 (.int .u64 (i : Int)), .iface 25 (.int .u64 (s : Int))] 20))
    refine (errorf_uu F _ fmtBeyond (i : Int) (s : Int) w.heap.size _ (HF.out _ B1) (by simp) (by simp)).mono ?_
    rintro r w1 ⟨⟨g, rfl⟩, hb⟩
    have B2 := B1.trans (hb.mono B1.size)
    clear hb B1
    go_wp2_with fail
    go_ret2
    exact ⟨⟨g, rfl⟩, B2⟩
  have hg1 : ¬ (s : Int) ≤ (i : Int) := by omega
  have hm := method_size h
  have HM := Lib.hid (fun W => hsize_c h W)
  by_cases hl : ll.length = 2
  case neg =>
    have hl1 : ¬ (ll.length : Int) = 2 := by omega
    generalize ll.length = n at *
    clear hbad _hi hs hg hl
    unfold hasherV
    go_enter Tryf.func19, Tryf.ntmps19
    go_wp2_with fail
    refine (HM.out _).mono ?_; rintro e w1 ⟨rfl, hb1⟩
    go_wp2_with fail
    have B1 := (hb1.alloc hb1.size (.cells #[.iface 3 (.int .i64 (n : Int)), .iface 3 (.int .i64 2)] 20))
    refine (errorf_ii F _ fmtLeaf (n : Int) 2 w1.heap.size _ (HF.out _ B1) (by simp) (by simp)).mono ?_
    rintro r w2 ⟨⟨g, rfl⟩, hb⟩
    have B2 := B1.trans (hb.mono B1.size)
    clear hb B1
    go_wp2_with fail
    go_ret2
    exact ⟨⟨g, rfl⟩, B2⟩
  have hL : ¬ L.length = Pl.inn i s + Pl.bord i s := by
    rw [← Pl.dirs_len i s (by omega) hs]
    rcases hbad with h | h | h
    · exact absurd h hg
    · exact absurd hl h
    · exact h
  have HD := Lib.hid (fun w => decomp_c i s (by omega) hs w)
  have hle := inn_le (show i < s by omega) hs
  have hb : Pl.bord i s ≤ 64 := Pl.pop_le 64 _
  rw [hl]
  have e1 : IntKind.i64.wrap (((Pl.inn i s : Nat) : Int) + ((Pl.bord i s : Nat) : Int)) = ((Pl.inn i s + Pl.bord i s : Nat) : Int) := by rw [IntWalk.i64_in _ (by omega)]; omega
  generalize Pl.bord i s = b at *
  generalize Pl.inn i s = d at *
  generalize L.length = n at *
  generalize d + b = db at *
  have hL1 : ¬ (n : Int) = (db : Int) := by omega
  clear hbad _hi hs hg hl hle hb hL
  unfold hasherV
  go_enter Tryf.func19, Tryf.ntmps19
  go_wp2_with fail
  refine (HM.out _).mono ?_; rintro e w1 ⟨rfl, hb1⟩
  go_wp2_with fail
  refine (HD.out _).mono ?_; rintro e w' ⟨rfl, rfl⟩
  go_wp2_with fail
  have B1 := (hb1.alloc hb1.size (.cells #[.iface 3 (.int .i64 (n : Int)), .iface 3 (.int .i64 (db : Int))] 20))
  refine (errorf_ii F _ fmtWrong (n : Int) (db : Int) w1.heap.size _ (HF.out _ B1) (by simp) (by simp)).mono ?_
  rintro r w2 ⟨⟨g, rfl⟩, hb⟩
  have B2 := B1.trans (hb.mono B1.size)
  clear hb B1
  go_wp2_with fail
  go_ret2
  exact ⟨⟨g, rfl⟩, B2⟩
theorem verify_err (F : Stop.Interp) (h : Pl.HF) (i s : Nat) (hi : i < 18446744073709551616) (hs : s < 18446744073709551616) (lv v rv : Value) (ll rl : List Nat) (L : List (List Nat)) (w : World) (hF : F.answers w.tape) (hlv : BytesR w lv ll) (hv : HashesR w v L) (hrv : BytesR w rv rl) (hbad : BadIncl i s ll L) :
    Calls Tryf.prog 24 #[hasherV h, .int .u64 (i : Int), .int .u64 (s : Int), lv, v, rv] w (RetErr w) := by
  have HR := Lib.hid (root_err F h i s hi hs lv v ll L w hF hlv hv hbad)
  obtain ⟨A1, n1, c1, rfl⟩ := hlv.form
  obtain ⟨A2, c2, rfl, _⟩ := id hv
  obtain ⟨A3, n3, c3, rfl⟩ := hrv.form
  clear hlv hv hrv hbad hF hi hs
  go_enter Tryf.func24, Tryf.ntmps24
  go_wp2_with fail
  refine HR.out.mono ?_
  rintro e w1 ⟨⟨g, rfl⟩, hb1⟩
  go_wp2_with fail
  go_ret
  exact ⟨⟨g, rfl⟩, hb1⟩
set_option maxHeartbeats 1000000 in
theorem verI_err (F : Stop.Interp) (h : Pl.HF) (i s : Nat) (hi : i < 18446744073709551616) (hs : s < 18446744073709551616) (lv v rv : Value) (ll rl : List Nat) (L : List (List Nat)) (w : World) (hF : F.answers w.tape) (hlv : BytesR w lv ll) (hv : HashesR w v L) (hrv : BytesR w rv rl) (hf : Fits L) (hH : Handle w) (hbad : BadIncl i s ll L) :
    Calls Tryf.prog 10 #[hashV h, .int .u64 (i : Int), .int .u64 (s : Int), lv, v, rv] w fun e w' => e = .returned (.int .i64 2) ∧ Below w.heap.size w w' := by
  have HC := Lib.hid (fun (W : World) (g0 : Nat) (x1 x2 x3 : Value) (h : SV w g0 x1 x2 x3 lv v rv ll rl L W) => copied_h v L W h.2.2.2.2.2.1 hf)
  have HV := Lib.hid (fun (W : World) (u : Value) (x1 x2 x3 : Value) (h1 : SV w w.heap.size x1 x2 x3 lv v rv ll rl L W) h2 => verify_err F h i s hi hs lv u rv ll rl L W (ans_below hF h1.2.2.2.2.2.2.2) h1.2.2.2.1 h2 h1.2.2.2.2.1 hbad)
  have HX := Lib.hid (fun (W : World) (a : Addr) (g0 : Nat) (x1 x2 x3 : Value) (h1 : SV w g0 x1 x2 x3 lv v rv ll rl L W) => fault_other a W h1.2.2.2.2.2.2.1)
  have HL := Lib.hid hlv
  have HR := Lib.hid hrv
  have HP := Lib.hid hv
  have HH := Lib.hid hH
  clear hlv hrv hv hH hi hs hf hbad hF
  unfold hasherV at HV
  obtain ⟨A, B, C⟩ := h
  unfold hashV at HV ⊢
  simp only [] at HV ⊢
  go_enter Tryf.func10, Tryf.ntmps10
  go_wp2_with fail
  have B0 : Below w.heap.size w (w.alloc (.cells #[.int .u32 (A : Int), .int .u32 (B : Int), .int .u32 (C : Int)] 24)).drew := ((Below.refl _ _).alloc (Nat.le_refl _) _).drew
  have S0 : SV w w.heap.size (.int .u32 (A : Int)) (.int .u32 (B : Int)) (.int .u32 (C : Int)) lv v rv ll rl L (w.alloc (.cells #[.int .u32 (A : Int), .int .u32 (B : Int), .int .u32 (C : Int)] 24)).drew := ⟨by simp, by simp, by simp, HL.out.below B0, HR.out.below B0, HP.out.below B0, HH.out.below B0, B0⟩
  generalize hg0 : w.heap.size = g0 at *
  have HG : Hid (w.heap.size = g0) := hg0
  clear hg0 HL HR HP HH
  go_region_held3 (fun w' => w'.cell? ⟨g0, 0, none⟩ = some (.int .u32 (A : Int)) ∧ w'.cell? ⟨g0, 1, none⟩ = some (.int .u32 (B : Int)) ∧ w'.cell? ⟨g0, 2, none⟩ = some (.int .u32 (C : Int)) ∧ BytesR w' lv ll ∧ BytesR w' rv rl ∧ HashesR w' v L ∧ Handle w' ∧ Below g0 w w')
    (first | assumption | exact S0 | exact keepV hb (by assumption))
    (first | (go_at_call 20; refine (HC.out _ g0 (.int .u32 (A : Int)) (.int .u32 (B : Int)) (.int .u32 (C : Int)) (by assumption)).mono ?_; rintro e w' ⟨u, rfl, hu, hb⟩) | (go_at_call 24; refine (HV.out _ _ (.int .u32 (A : Int)) (.int .u32 (B : Int)) (.int .u32 (C : Int)) (by assumption) (by assumption)).mono ?_; rintro e w' ⟨⟨ge, rfl⟩, hb⟩) | (go_at_call 23; refine (HX.out _ _ g0 (.int .u32 (A : Int)) (.int .u32 (B : Int)) (.int .u32 (C : Int)) (by assumption)).mono ?_; rintro e w' ⟨rfl, hb⟩))
  all_goals
    obtain ⟨_, _, _, _, _, _, _, hB⟩ : w'.cell? ⟨g0, 0, none⟩ = some (.int .u32 (A : Int)) ∧ w'.cell? ⟨g0, 1, none⟩ = some (.int .u32 (B : Int)) ∧ w'.cell? ⟨g0, 2, none⟩ = some (.int .u32 (C : Int)) ∧ BytesR w' lv ll ∧ BytesR w' rv rl ∧ HashesR w' v L ∧ Handle w' ∧ Below g0 w w' := by assumption
    clear B0 S0 hb hu HC HV HX
    go_wp2
    go_ret
    exact ⟨rfl, HG.out ▸ hB⟩
abbrev SW (w : World) (x1 x2 x3 lv v : Value) (ll : List Nat) (L : List (List Nat)) (w' : World) : Prop := w'.cell? ⟨w.heap.size, 0, none⟩ = some x1 ∧ w'.cell? ⟨w.heap.size, 1, none⟩ = some x2 ∧ w'.cell? ⟨w.heap.size, 2, none⟩ = some x3 ∧ BytesR w' lv ll ∧ HashesR w' v L ∧ Below w.heap.size w w'
theorem keepW {w W w' : World} {x1 x2 x3 lv v : Value} {ll : List Nat} {L : List (List Nat)} (hb : Below W.heap.size W w') (h : SW w x1 x2 x3 lv v ll L W) : SW w x1 x2 x3 lv v ll L w' :=
  have up : ∀ {p : Addr} {v : Value}, W.cell? p = some v → w'.cell? p = some v := fun {p} {_} h => (hb.cell (World.block_lt_of_cell? W p h)).trans h
  ⟨up h.1, up h.2.1, up h.2.2.1, h.2.2.2.1.below hb, h.2.2.2.2.1.below hb, h.2.2.2.2.2.trans (hb.mono h.2.2.2.2.2.size)⟩
/-- The thin function's answer: the root; no root. -/
def RetRootI (w : World) (l : List Nat) (e : Ending) (w' : World) : Prop := ∃ v, e = .returned (.tuple #[v, .bool true]) ∧ BytesR w' v l ∧ Below w.heap.size w w'
def RetRootN (w : World) (e : Ending) (w' : World) : Prop := ∃ v, e = .returned (.tuple #[v, .bool false]) ∧ BytesR w' v [] ∧ Below w.heap.size w w'
set_option maxHeartbeats 1000000 in
theorem rootI_ok (h : Pl.HF) (ok : h.ok) (i s : Nat) (hi : i < s) (hs : s < 18446744073709551616) (lv v : Value) (ll : List Nat) (L : List (List Nat)) (w : World) (hl2 : ll.length = 2) (hlv : BytesR w lv ll) (hv : HashesR w v L) (hL : L.length = (Pl.dirs i s).length) (hf : Fits L) :
    Calls Tryf.prog 8 #[hashV h, .int .u64 (i : Int), .int .u64 (s : Int), lv, v] w (RetRootI w (Pl.chain h ll ((Pl.dirs i s).zip L))) := by
  have HC := Lib.hid (fun (W : World) (x1 x2 x3 : Value) (h : SW w x1 x2 x3 lv v ll L W) => copied_h v L W h.2.2.2.2.1 hf)
  have HV := Lib.hid (fun (W : World) (u : Value) (x1 x2 x3 : Value) (h1 : SW w x1 x2 x3 lv v ll L W) h2 => root_ok h ok i s hi hs lv u ll L W hl2 h1.2.2.2.1 h2 hL)
  have HL := Lib.hid hlv
  have HP := Lib.hid hv
  generalize Pl.chain h ll ((Pl.dirs i s).zip L) = res at *
  clear hlv hv hi hs hf hL hl2 ok
  unfold hasherV at HV
  obtain ⟨A, B, C⟩ := h
  unfold hashV at HV ⊢
  simp only [] at HV ⊢
  go_enter Tryf.func8, Tryf.ntmps8
  go_wp2_with fail
  have B0 : Below w.heap.size w (w.alloc (.cells #[.int .u32 (A : Int), .int .u32 (B : Int), .int .u32 (C : Int)] 24)).drew := ((Below.refl _ _).alloc (Nat.le_refl _) _).drew
  have S0 : SW w (.int .u32 (A : Int)) (.int .u32 (B : Int)) (.int .u32 (C : Int)) lv v ll L (w.alloc (.cells #[.int .u32 (A : Int), .int .u32 (B : Int), .int .u32 (C : Int)] 24)).drew := ⟨by simp, by simp, by simp, HL.out.below B0, HP.out.below B0, B0⟩
  clear HL HP
  go_region_held3 (fun w' => w'.cell? ⟨w.heap.size, 0, none⟩ = some (.int .u32 (A : Int)) ∧ w'.cell? ⟨w.heap.size, 1, none⟩ = some (.int .u32 (B : Int)) ∧ w'.cell? ⟨w.heap.size, 2, none⟩ = some (.int .u32 (C : Int)) ∧ BytesR w' lv ll ∧ HashesR w' v L ∧ Below w.heap.size w w')
    (first | assumption | exact S0 | exact keepW hb (by assumption))
    (first | (go_at_call 20; refine (HC.out _ (.int .u32 (A : Int)) (.int .u32 (B : Int)) (.int .u32 (C : Int)) (by assumption)).mono ?_; rintro e w' ⟨u, rfl, hu, hb⟩) | (go_at_call 19; refine (HV.out _ _ (.int .u32 (A : Int)) (.int .u32 (B : Int)) (.int .u32 (C : Int)) (by assumption) (by assumption)).mono ?_; rintro e w' ⟨vr, rfl, hvr, hb⟩))
  all_goals
    obtain ⟨_, _, _, _, _, hB⟩ : w'.cell? ⟨w.heap.size, 0, none⟩ = some (.int .u32 (A : Int)) ∧ w'.cell? ⟨w.heap.size, 1, none⟩ = some (.int .u32 (B : Int)) ∧ w'.cell? ⟨w.heap.size, 2, none⟩ = some (.int .u32 (C : Int)) ∧ BytesR w' lv ll ∧ HashesR w' v L ∧ Below w.heap.size w w' := by assumption
    have HVR := Lib.hid hvr
    obtain ⟨Ar, nr, cr, rfl⟩ := hvr.form
    clear B0 S0 hb hu HC HV hvr
    go_wp2
    go_ret2
    exact ⟨_, rfl, HVR.out, hB⟩
set_option maxHeartbeats 1000000 in
theorem rootI_err (F : Stop.Interp) (h : Pl.HF) (i s : Nat) (hi : i < 18446744073709551616) (hs : s < 18446744073709551616) (lv v : Value) (ll : List Nat) (L : List (List Nat)) (w : World) (hF : F.answers w.tape) (hlv : BytesR w lv ll) (hv : HashesR w v L) (hf : Fits L) (hbad : BadIncl i s ll L) :
    Calls Tryf.prog 8 #[hashV h, .int .u64 (i : Int), .int .u64 (s : Int), lv, v] w (RetRootN w) := by
  have HC := Lib.hid (fun (W : World) (x1 x2 x3 : Value) (h : SW w x1 x2 x3 lv v ll L W) => copied_h v L W h.2.2.2.2.1 hf)
  have HV := Lib.hid (fun (W : World) (u : Value) (x1 x2 x3 : Value) (h1 : SW w x1 x2 x3 lv v ll L W) h2 => root_err F h i s hi hs lv u ll L W (ans_below hF h1.2.2.2.2.2) h1.2.2.2.1 h2 hbad)
  have HL := Lib.hid hlv
  have HP := Lib.hid hv
  clear hlv hv hi hs hf hbad hF
  unfold hasherV at HV
  obtain ⟨A, B, C⟩ := h
  unfold hashV at HV ⊢
  simp only [] at HV ⊢
  go_enter Tryf.func8, Tryf.ntmps8
  go_wp2_with fail
  have B0 : Below w.heap.size w (w.alloc (.cells #[.int .u32 (A : Int), .int .u32 (B : Int), .int .u32 (C : Int)] 24)).drew := ((Below.refl _ _).alloc (Nat.le_refl _) _).drew
  have S0 : SW w (.int .u32 (A : Int)) (.int .u32 (B : Int)) (.int .u32 (C : Int)) lv v ll L (w.alloc (.cells #[.int .u32 (A : Int), .int .u32 (B : Int), .int .u32 (C : Int)] 24)).drew := ⟨by simp, by simp, by simp, HL.out.below B0, HP.out.below B0, B0⟩
  clear HL HP
  go_region_held3 (fun w' => w'.cell? ⟨w.heap.size, 0, none⟩ = some (.int .u32 (A : Int)) ∧ w'.cell? ⟨w.heap.size, 1, none⟩ = some (.int .u32 (B : Int)) ∧ w'.cell? ⟨w.heap.size, 2, none⟩ = some (.int .u32 (C : Int)) ∧ BytesR w' lv ll ∧ HashesR w' v L ∧ Below w.heap.size w w')
    (first | assumption | exact S0 | exact keepW hb (by assumption))
    (first | (go_at_call 20; refine (HC.out _ (.int .u32 (A : Int)) (.int .u32 (B : Int)) (.int .u32 (C : Int)) (by assumption)).mono ?_; rintro e w' ⟨u, rfl, hu, hb⟩) | (go_at_call 19; refine (HV.out _ _ (.int .u32 (A : Int)) (.int .u32 (B : Int)) (.int .u32 (C : Int)) (by assumption) (by assumption)).mono ?_; rintro e w' ⟨⟨ge, rfl⟩, hb⟩))
  all_goals
    obtain ⟨_, _, _, _, _, hB⟩ : w'.cell? ⟨w.heap.size, 0, none⟩ = some (.int .u32 (A : Int)) ∧ w'.cell? ⟨w.heap.size, 1, none⟩ = some (.int .u32 (B : Int)) ∧ w'.cell? ⟨w.heap.size, 2, none⟩ = some (.int .u32 (C : Int)) ∧ BytesR w' lv ll ∧ HashesR w' v L ∧ Below w.heap.size w w' := by assumption
    clear B0 S0 hb hu HC HV
    go_wp2
    go_ret2
    exact ⟨_, rfl, ⟨_, 0, rfl, Nat.le_refl _, fun x hx => by simp at hx, fun h => by simp at h⟩, hB.alloc hB.size _⟩
end Go.Proofs.YtobnmgnnidhfkaaFmt
/- proof.chainInnerRight, proof.VerifyConsistency, impl.VerifyConsistency. -/
namespace Go.Proofs.YtobnmgnnidhfkaaFmt
open Go.ChangeShapes Go.WideShapes Go.ChangeAt Go.RowKit
set_option maxRecDepth 20000
set_option maxHeartbeats 1000000 in
theorem innerR_c (h : Pl.HF) (ok : h.ok) (v s : Value) (sl : List Nat) (L : List (List Nat)) (i : Nat) (hi : i < 18446744073709551616) (w : World) (hs : BytesR w s sl) (hv : HashesR w v L) (hL : L.length ≤ 64) :
    Calls Tryf.prog 55 #[hasherV h, s, v, .int .u64 (i : Int)] w (RetBytes w (Pl.chainR h sl ((Pl.lowbits L.length i).zip L))) := by
  obtain ⟨A, cap, rfl, hcap, hy, hat⟩ := hv
  have HK := Lib.hid ok
  have HS := Lib.hid hs
  have HI := Lib.hid hi
  obtain ⟨As, cs, rfl, _⟩ := id hs
  have hm := method_children h
  unfold hasherV
  clear ok hs hy hi
  go_enter Tryf.func55, Tryf.ntmps55
  go_wp2_with fail
  go_loopw [1, 13] (fun sv kv wr => ∃ (k : Nat) (As : Option Addr) (ns cs : Nat), k ≤ L.length ∧ sv = .slice As ns cs ∧ kv = .int .i64 k ∧ Hid (BytesR wr (.slice As ns cs) (Pl.chainR h sl ((Pl.lowbits k i).zip (L.take k)))) ∧ Below w.heap.size w wr) (fun _ kv _ => L.length - (intOf kv).toNat)
  case atStart => exact ⟨0, As, _, cs, Nat.zero_le _, rfl, rfl, Lib.hid HS.out, Below.refl _ _⟩
  case round =>
    obtain ⟨k, A1, n1, c1, hk, rfl, rfl, HB, hB⟩ := hrel
    by_cases hkl : k < L.length
    · obtain ⟨g, o, rfl, hc⟩ := hat (by omega)
      obtain ⟨u, hu, hbr⟩ := hc k hkl
      have hu' := (hB.cell (World.block_lt_of_cell? w _ hu)).trans hu
      have hbr' := Lib.hid (hbr.below hB)
      obtain ⟨A2, c2, rfl, _⟩ := id hbr
      have hk1 : (k : Int) < (L.length : Int) := by omega
      have hk0 : (0 : Int) ≤ (k : Int) := by omega
      have HCh := Lib.hid (Pl.chainR_inner (h := h) (s := sl) i k hkl)
      have e1 : (i : Int) / 2 ^ k = ((i / 2 ^ k : Nat) : Int) := by simp
      have hq : i / 2 ^ k < 18446744073709551616 := Nat.lt_of_le_of_lt (Nat.div_le_self _ _) HI.out
      generalize i / 2 ^ k = q at e1 hq HCh
      have e2 : bits .and .u64 (q : Int) 1 = ((q % 2 : Nat) : Int) := by rw [← Nat.and_one_is_mod]; exact and_n q 1 hq (by decide)
      have e3 : IntKind.u64.wrap (k : Int) = (k : Int) := wrapN k (by omega)
      have hmk : min k 64 = k := by omega
      clear hc hat hbr hu hq
      rcases Nat.mod_two_eq_zero_or_one q with hb | hb
      · rw [hb] at e2
        rw [if_neg (by omega)] at HCh
        clear hb
        have HN := Lib.hid (Eq.subst (motive := fun z => BytesR wr (.slice A1 n1 c1) z) HCh.out.symm HB.out)
        clear HB hbr' HCh
        go_wp2_with fail
        go_roundw
        case rel => exact ⟨k + 1, A1, n1, c1, by omega, rfl, by go_num, HN, hB⟩
        case measure => simp [intOf] <;> omega
      · rw [hb] at e2
        rw [if_pos hb] at HCh
        clear hb
        go_wp2_with fail
        refine (children_c h HK.out _ _ _ _ _ hbr'.out HB.out).mono ?_
        rintro e w2 ⟨v2, rfl, hv2, hb2⟩
        obtain ⟨A3, n3, c3, rfl⟩ := hv2.form
        have HN := Lib.hid (Eq.subst (motive := fun z => BytesR w2 (.slice A3 n3 c3) z) HCh.out.symm hv2)
        clear hv2 HB hbr' HCh
        go_wp2_with fail
        go_roundw
        case rel => exact ⟨k + 1, A3, n3, c3, by omega, rfl, by go_num, HN, hB.trans (hb2.mono hB.size)⟩
        case measure => simp [intOf] <;> omega
    · have hk1 : ¬ (k : Int) < (L.length : Int) := by omega
      obtain rfl : k = L.length := by omega
      rw [List.take_length] at HB
      clear hat
      go_wp2_with fail
      go_ret
      exact ⟨_, rfl, HB.out, hB⟩
theorem fmtSize2 : Fmt2 ⟨#[115, 105, 122, 101, 50, 32, 40, 37, 100, 41, 32, 60, 32, 115, 105, 122, 101, 49, 32, 40, 37, 100, 41]⟩ := ⟨by kernel_rfl, fun w => by kernel_rfl⟩
theorem fmtWrongC : Fmt2 ⟨#[119, 114, 111, 110, 103, 32, 112, 114, 111, 111, 102, 32, 115, 105, 122, 101, 32, 37, 100, 44, 32, 119, 97, 110, 116, 32, 37, 100]⟩ := ⟨by kernel_rfl, fun w => by kernel_rfl⟩
theorem new_c (s : ByteArray) (w : World) : Calls Tryf.prog 54 #[.string s] w (RetErr w) := by
  go_enter Tryf.func54, Tryf.ntmps54
  go_wp2
  go_ret
  exact ⟨⟨_, rfl⟩, (Below.refl _ _).alloc (Nat.le_refl _) _⟩
/-- No error; the mismatch's error; another error. -/
def RetNone (w : World) (e : Ending) (w' : World) : Prop := e = .returned .nilIface ∧ Below w.heap.size w w'
def RetMis (w : World) (e : Ending) (w' : World) : Prop := (∃ A1 n1 c1 A2 n2 c2, e = .returned (.iface 92 (.agg #[.slice A1 n1 c1, .slice A2 n2 c2]))) ∧ Below w.heap.size w w'
section
variable (F : Stop.Interp) (h : Pl.HF) (v v1 v2 : Value) (L : List (List Nat)) (r1 r2 : List Nat) (w : World)
theorem vc_order (m s : Nat) (hF : F.answers w.tape) (hv : HashesR w v L) (h1 : BytesR w v1 r1) (h2 : BytesR w v2 r2) (hm : s < m) :
    Calls Tryf.prog 32 #[hasherV h, .int .u64 (m : Int), .int .u64 (s : Int), v, v1, v2] w (RetErr w) := by
  have HF := Lib.hid (fun (W : World) (hb : Below w.heap.size w W) => ans_below hF hb)
  obtain ⟨A, cap, rfl, hc9⟩ := id hv
  obtain ⟨A1, n1, k1, rfl⟩ := h1.form
  obtain ⟨A2, n2, k2, rfl⟩ := h2.form
  have hg : (s : Int) < (m : Int) := by omega
  have hg1 : decide (s < m) = true := decide_eq_true hm
  clear hF hv h1 h2 hc9
  go_enter Tryf.func32, Tryf.ntmps32
  go_wp2_with fail
  have B1 := (Below.refl w.heap.size w).alloc (Nat.le_refl _) (.cells #[.iface 25 (.int .u64 (m : Int)), .iface 25 (.int .u64 (s : Int))] 20)
  refine (errorf_uu F _ fmtSize2 (m : Int) (s : Int) w.heap.size _ (HF.out _ B1) (by simp) (by simp)).mono ?_
  rintro r w1 ⟨⟨g, rfl⟩, hb⟩
  have B2 := B1.trans (hb.mono B1.size)
  clear hb B1
  go_wp2_with fail
  go_ret
  exact ⟨⟨g, rfl⟩, B2⟩
theorem vc_same_more (m : Nat) (hv : HashesR w v L) (h1 : BytesR w v1 r1) (h2 : BytesR w v2 r2) (hL : ¬ L.length = 0) :
    Calls Tryf.prog 32 #[hasherV h, .int .u64 (m : Int), .int .u64 (m : Int), v, v1, v2] w (RetErr w) := by
  obtain ⟨A, cap, rfl, hc9⟩ := id hv
  obtain ⟨A1, n1, k1, rfl⟩ := h1.form
  obtain ⟨A2, n2, k2, rfl⟩ := h2.form
  have hg : (0 : Int) < (L.length : Int) := by omega
  have hg1 : decide (0 < L.length) = true := decide_eq_true (by omega)
  clear hv h1 h2 hc9 hL
  generalize L.length = n at *
  go_enter Tryf.func32, Tryf.ntmps32
  go_wp2_with fail
  refine (new_c _ _).mono ?_
  rintro r w1 ⟨⟨g, rfl⟩, hb⟩
  go_wp2_with fail
  go_ret
  exact ⟨⟨g, rfl⟩, hb⟩
theorem vc_same_yes (m : Nat) (hv : HashesR w v L) (h1 : BytesR w v1 r1) (h2 : BytesR w v2 r1) (hL : L.length = 0) :
    Calls Tryf.prog 32 #[hasherV h, .int .u64 (m : Int), .int .u64 (m : Int), v, v1, v2] w (RetNone w) := by
  have HM := Lib.hid (match_yes v1 v2 r1 w h1 h2)
  obtain ⟨A, cap, rfl, hc9⟩ := id hv
  obtain ⟨A1, n1, k1, rfl⟩ := h1.form
  obtain ⟨A2, n2, k2, rfl⟩ := h2.form
  rw [hL]
  clear hv h1 h2 hc9 hL
  go_enter Tryf.func32, Tryf.ntmps32
  go_wp2_with fail
  refine HM.out.mono ?_
  rintro r w1 ⟨rfl, rfl⟩
  go_wp2_with fail
  go_ret
  exact ⟨rfl, Below.refl _ _⟩
theorem vc_same_no (m : Nat) (hv : HashesR w v L) (h1 : BytesR w v1 r1) (h2 : BytesR w v2 r2) (hL : L.length = 0) (hne : r1 ≠ r2) :
    Calls Tryf.prog 32 #[hasherV h, .int .u64 (m : Int), .int .u64 (m : Int), v, v1, v2] w (RetMis w) := by
  have HM := Lib.hid (match_no v1 v2 r1 r2 w h1 h2 hne)
  obtain ⟨A, cap, rfl, hc9⟩ := id hv
  obtain ⟨A1, n1, k1, rfl⟩ := h1.form
  obtain ⟨A2, n2, k2, rfl⟩ := h2.form
  rw [hL]
  clear hv h1 h2 hc9 hL hne
  go_enter Tryf.func32, Tryf.ntmps32
  go_wp2_with fail
  refine HM.out.mono ?_
  rintro r w1 ⟨rfl, rfl⟩
  go_wp2_with fail
  go_ret
  exact ⟨⟨_, _, _, _, _, _, rfl⟩, Below.refl _ _⟩
theorem vc_empty (m s : Nat) (hv : HashesR w v L) (h1 : BytesR w v1 r1) (h2 : BytesR w v2 r2) (hm1 : 1 ≤ m) (hm : m < s) (hL : L.length = 0) :
    Calls Tryf.prog 32 #[hasherV h, .int .u64 (m : Int), .int .u64 (s : Int), v, v1, v2] w (RetErr w) := by
  obtain ⟨A, cap, rfl, hc9⟩ := id hv
  obtain ⟨A1, n1, k1, rfl⟩ := h1.form
  obtain ⟨A2, n2, k2, rfl⟩ := h2.form
  have hg : ¬ (s : Int) < (m : Int) := by omega
  have hg1 : decide (s < m) = false := decide_eq_false (by omega)
  have hg2 : ¬ (m : Int) = (s : Int) := by omega
  have hg3 : ((m : Int) == (s : Int)) = false := beq_eq_false_iff_ne.2 hg2
  have hg4 : ¬ (m : Int) = 0 := by omega
  have hg5 : ((m : Int) == 0) = false := beq_eq_false_iff_ne.2 hg4
  rw [hL]
  clear hv h1 h2 hc9 hL hm hm1
  go_enter Tryf.func32, Tryf.ntmps32
  go_wp2_with fail
  refine (new_c _ _).mono ?_
  rintro r w1 ⟨⟨g, rfl⟩, hb⟩
  go_wp2_with fail
  go_ret
  exact ⟨⟨g, rfl⟩, hb⟩
set_option maxHeartbeats 2000000 in
theorem vc_none0 (ok : h.ok) (m s q : Nat) (hT : Tab w) (hv : HashesR w v L) (h1 : BytesR w v1 r1) (h2 : BytesR w v2 r2) (hm1 : 1 ≤ m) (hm : m < s) (hs : s < 18446744073709551616) (hq : m = 2 ^ Lib.ctz 64 m * (2 * q + 1)) (hq0 : q = 0) (hL0 : 0 < L.length) (hLn : L.length ≤ 2147483647) (hl : L.length = (Pl.cd m s).length + 0) (y1 : Pl.chainR h r1 ((Pl.cd m s).zip L) = r1) (y2 : Pl.chain h r1 ((Pl.cd m s).zip L) = r2) :
    Calls Tryf.prog 32 #[hasherV h, .int .u64 (m : Int), .int .u64 (s : Int), v, v1, v2] w (RetNone w) := by
  have HZ := Lib.hid (fun W (hT : Tab W) => tz_c m (by omega) (by omega) W hT)
  have hk64 : Lib.ctz 64 m < 64 := by
    obtain ⟨_, _, h⟩ := ctz_odd m (by omega) (by omega)
    exact h
  obtain ⟨hc1, hcd⟩ := Pl.cd_code hm1 hm hs hq
  have hin := inn_le (show m - 1 < s by omega) hs
  have hbd : Pl.bord (m - 1) s ≤ 64 := Pl.pop_le 64 _
  have HD := Lib.hid (fun w => decomp_c (m - 1) s (by omega) hs w)
  have hp := Nat.two_pow_pos (Lib.ctz 64 m)
  have hpw : ((m : Nat) : Int) = ((2 ^ Lib.ctz 64 m : Nat) : Int) := by
    rw [hq0] at hq; simp only [Nat.mul_zero, Nat.zero_add, Nat.mul_one] at hq; exact congrArg (fun z : Nat => (z : Int)) hq
  have hmask : (m - 1) / 2 ^ Lib.ctz 64 m < 18446744073709551616 := Nat.lt_of_le_of_lt (Nat.div_le_self _ _) (by omega)
  have e4 : ((m - 1 : Nat) : Int) / 2 ^ Lib.ctz 64 m = (((m - 1) / 2 ^ Lib.ctz 64 m : Nat) : Int) := by simp
  have e1 : IntKind.u64.wrap ((m : Int) - 1) = ((m - 1 : Nat) : Int) := by rw [IntKind.wrap_u64]; omega
  have e3 : IntKind.u64.wrap ((Lib.ctz 64 m : Nat) : Int) = ((Lib.ctz 64 m : Nat) : Int) := wrapN _ (by omega)
  have hmin : min (Lib.ctz 64 m) 64 = Lib.ctz 64 m := by omega
  obtain ⟨wp1, wp2⟩ := pow_wrap (Lib.ctz 64 m) (by omega)
  rw [hcd] at hl y1 y2
  generalize (m - 1) / 2 ^ Lib.ctz 64 m = mk at *
  generalize hcc : Lib.ctz 64 m = c at *
  generalize Pl.bord (m - 1) s = b at *
  generalize hd0 : Pl.inn (m - 1) s = d0 at *
  clear hd0 hcd hcc
  obtain ⟨d, hd⟩ : ∃ d, d = d0 - c := ⟨_, rfl⟩
  rw [← hd] at hl y1 y2
  have e2 : IntKind.i64.wrap ((d0 : Int) - (c : Int)) = (d : Int) := by rw [IntWalk.i64_in _ (by omega)]; omega
  have hll : (Pl.lowbits d mk ++ List.replicate b true).length = d + b := by rw [List.length_append, Pl.lowbits_length, List.length_replicate]
  rw [hll] at hl
  have e5 : IntKind.i64.wrap (d : Int) = (d : Int) := IntWalk.i64_in _ (by omega)
  have e5' : IntKind.i64.wrap ((d : Int) + (b : Int)) = ((d + b + 0 : Nat) : Int) := by rw [IntWalk.i64_in _ (by omega)]; omega
  have hg : ¬ (s : Int) < (m : Int) := by omega
  have hg1 : decide (s < m) = false := decide_eq_false (by omega)
  have hg2 : ¬ (m : Int) = (s : Int) := by omega
  have hg3 : ((m : Int) == (s : Int)) = false := beq_eq_false_iff_ne.2 hg2
  have hg4 : ¬ (m : Int) = 0 := by omega
  have hg5 : ((m : Int) == 0) = false := beq_eq_false_iff_ne.2 hg4
  have hg6 : ¬ (L.length : Int) = 0 := by omega
  have hg7 : ((L.length : Int) == 0) = false := beq_eq_false_iff_ne.2 hg6
  have hg8 : (0 : Int) < (L.length : Int) := by omega
  obtain ⟨A, cap, rfl, hcap, hby, hat⟩ := id hv
  obtain ⟨A1, n1, k1, rfl⟩ := h1.form
  obtain ⟨A2, n2, k2, rfl⟩ := h2.form
  obtain ⟨g, o, rfl, hat2⟩ := hat hL0
  obtain ⟨u0, hu0, hb0⟩ := hat2 0 hL0
  obtain ⟨A3, n3, k3, rfl⟩ := hb0.form
  have hcell : w.cell? ⟨g, o, none⟩ = some (.slice A3 n3 k3) := by simpa using hu0
  have hb0' : BytesR w (.slice A3 n3 k3) (L.getD 0 []) := by rw [List.getD_eq_getElem?_getD, List.getElem?_eq_getElem hL0]; exact hb0
  clear hb0
  have hb0 := hb0'
  clear hb0'
  have HTT := Lib.hid hT
  have HPW : ((m : Int) == (2 : Int) ^ c) = true := by rw [hpw]; simp
  clear hpw
  have HK := Lib.hid ok
  clear hat hat2 hu0 hby

  have hlr : (L.drop 0).length = d + b := by rw [List.length_drop]; omega
  have r0 : ∀ W, (Instr.slice 27 (.slice (some ⟨g, o, none⟩) L.length cap) (some (.int .i64 (0 : Int))) none none).run Tryf.prog W = .ok (.slice (if cap = 0 then (some ⟨g, o, none⟩ : Option Addr) else (some (⟨g, o, none⟩ : Addr)).map (·.add (0 * 1))) (L.length - 0) (cap - 0)) W := fun W => hashes_tail (some ⟨g, o, none⟩) L.length cap 0 (by omega) W
  have HR := hv.tail (k := 0) (by omega)
  generalize (if cap = 0 then (some ⟨g, o, none⟩ : Option Addr) else (some (⟨g, o, none⟩ : Addr)).map (·.add (0 * 1))) = Ar at r0 HR
  rw [show L.length - 0 = d + b by omega] at r0 HR
  have hcq : d + b ≤ cap - 0 := by omega
  generalize cap - 0 = cq at r0 HR hcq
  have x1 := fun W => hashes_head Ar (d + b) cq d (by omega) W
  have x2 := fun W => hashes_tail Ar (d + b) cq d (by omega) W
  have HR1 := HR.head (k := d) (by omega)
  have HR2 := HR.tail (k := d) (by omega)
  rw [show d + b - d = b by omega] at x2 HR2
  generalize (if cq = 0 then Ar else Ar.map (·.add 0)) = Ax at x1 HR1
  generalize (if cq = d then Ar else Ar.map (·.add (d * 1))) = Ay at x2 HR2
  have hta : ((L.drop 0).take d).length = d := by rw [List.length_take, hlr]; omega
  have htb : ((L.drop 0).drop d).length = b := by rw [List.length_drop, hlr]; omega
  have hz : (Pl.lowbits d mk ++ List.replicate b true).zip (L.drop 0) = (Pl.lowbits d mk).zip ((L.drop 0).take d) ++ (List.replicate b true).zip ((L.drop 0).drop d) := by
    conv => lhs; rw [← List.take_append_drop d (L.drop 0)]
    rw [List.zip_append (by rw [hta, Pl.lowbits_length])]

  rw [show L.drop 0 = L from rfl] at *
  rw [hz, Pl.chainR_append] at y1

  have hrep : ∀ x, Pl.chainR h x ((List.replicate b true).zip (L.drop d)) = Pl.chain h x ((List.replicate b true).zip (L.drop d)) := fun x => by
    have := Pl.chainR_true h (L.drop d) x
    rwa [htb] at this
  rw [hrep] at y1

  rw [hz, Pl.chain_append] at y2
  have HI1 := Lib.hid (fun W (hb : Below w.heap.size w W) => innerR_c h HK.out _ _ r1 (L.take d) mk hmask W (h1.below hb) (HR1.below hb) (by omega))
  have HI2 := Lib.hid (fun W (hb : Below w.heap.size w W) => inner_c h HK.out _ _ r1 (L.take d) mk hmask W (h1.below hb) (HR1.below hb) (by omega))
  have HBo := Lib.hid (fun (u : Value) (l : List Nat) W (hb : Below w.heap.size w W) (hu : BytesR W u l) => border_c h HK.out _ u l (L.drop d) W hu (HR2.below hb) (by omega))
  have HY1 := Lib.hid (fun W (hb : Below w.heap.size w W) => h1.below hb)
  have HY2 := Lib.hid (fun W (hb : Below w.heap.size w W) => h2.below hb)
  rw [hta] at HI1 HI2
  rw [htb] at HBo
  generalize (Pl.lowbits d mk).zip (L.take d) = z1 at *
  generalize (List.replicate b true).zip (L.drop d) = z2 at *
  have Y1 := Lib.hid y1
  have Y2 := Lib.hid y2
  generalize hln : L.length = n at *
  rw [hl]
  clear hT ok hv h1 h2 hb0 hc1 hin hbd hm hm1 hs hq hq0 hL0 hLn hll hk64 hmask hd hcap hlr HR HR1 HR2 hta htb hz hrep hln y1 y2
  rw [hl] at hg6 hg7 hg8 r0
  clear hl
  generalize d + b + 0 = want at *
  generalize m - 1 = m1 at *
  unfold hasherV at HI1 HI2 HBo ⊢

  go_enter Tryf.func32, Tryf.ntmps32
  go_wp2_with fail
  refine (HD.out _).mono ?_; rintro e w' ⟨rfl, rfl⟩
  go_wp2_with fail
  refine (HZ.out _ HTT.out).mono ?_; rintro e w' ⟨rfl, rfl⟩
  go_wp2_with fail
  refine (HI1.out _ (Below.refl _ _)).mono ?_; rintro e w1 ⟨u1, rfl, hu1, hb1⟩
  have U1 := Lib.hid hu1
  obtain ⟨B1, p1, q1, rfl⟩ := hu1.form
  clear hu1
  go_wp2_with fail
  refine (HBo.out _ _ _ hb1 U1.out).mono ?_; rintro e w2 ⟨u2, rfl, hu2, hb2⟩
  have BB2 := hb1.trans (hb2.mono hb1.size)
  have U2 := Lib.hid hu2
  obtain ⟨B2, p2, q2, rfl⟩ := hu2.form
  clear hu2 hb1 hb2
  go_wp2_with fail

  refine (match_yes _ _ r1 _ (by have := U2.out; rwa [Y1.out] at this) (HY1.out _ BB2)).mono ?_; rintro e w3 ⟨rfl, rfl⟩
  go_wp2_with fail
  refine (HI2.out _ BB2).mono ?_; rintro e w4 ⟨u4, rfl, hu4, hb4⟩
  have BB4 := BB2.trans (hb4.mono BB2.size)
  have U4 := Lib.hid hu4
  obtain ⟨B4, p4, q4, rfl⟩ := hu4.form
  clear hu4 hb4
  go_wp2_with fail
  refine (HBo.out _ _ _ BB4 U4.out).mono ?_; rintro e w5 ⟨u5, rfl, hu5, hb5⟩
  have BB5 := BB4.trans (hb5.mono BB4.size)
  have U5 := Lib.hid hu5
  obtain ⟨B5, p5, q5, rfl⟩ := hu5.form
  clear hu5 hb5
  go_wp2_with fail

  refine (match_yes _ _ r2 _ (by have := U5.out; rwa [Y2.out] at this) (HY2.out _ BB5)).mono ?_; rintro e w6 ⟨rfl, rfl⟩
  go_wp2_with fail
  go_ret
  exact ⟨rfl, BB5⟩
set_option maxHeartbeats 2000000 in
theorem vc_none1 (ok : h.ok) (m s q : Nat) (hT : Tab w) (hv : HashesR w v L) (h1 : BytesR w v1 r1) (h2 : BytesR w v2 r2) (hm1 : 1 ≤ m) (hm : m < s) (hs : s < 18446744073709551616) (hq : m = 2 ^ Lib.ctz 64 m * (2 * q + 1)) (hq0 : ¬ q = 0) (hL0 : 0 < L.length) (hLn : L.length ≤ 2147483647) (hl : L.length = (Pl.cd m s).length + 1) (y1 : Pl.chainR h (L.getD 0 []) ((Pl.cd m s).zip L.tail) = r1) (y2 : Pl.chain h (L.getD 0 []) ((Pl.cd m s).zip L.tail) = r2) :
    Calls Tryf.prog 32 #[hasherV h, .int .u64 (m : Int), .int .u64 (s : Int), v, v1, v2] w (RetNone w) := by
  have HZ := Lib.hid (fun W (hT : Tab W) => tz_c m (by omega) (by omega) W hT)
  have hk64 : Lib.ctz 64 m < 64 := by
    obtain ⟨_, _, h⟩ := ctz_odd m (by omega) (by omega)
    exact h
  obtain ⟨hc1, hcd⟩ := Pl.cd_code hm1 hm hs hq
  have hin := inn_le (show m - 1 < s by omega) hs
  have hbd : Pl.bord (m - 1) s ≤ 64 := Pl.pop_le 64 _
  have HD := Lib.hid (fun w => decomp_c (m - 1) s (by omega) hs w)
  have hp := Nat.two_pow_pos (Lib.ctz 64 m)
  have hpw : ¬ ((m : Nat) : Int) = ((2 ^ Lib.ctz 64 m : Nat) : Int) := by
    intro e; have e : m = 2 ^ Lib.ctz 64 m := Int.ofNat_inj.1 e; have h3 : 2 ^ Lib.ctz 64 m * 3 ≤ 2 ^ Lib.ctz 64 m * (2 * q + 1) := Nat.mul_le_mul_left _ (by omega); omega
  have hmask : (m - 1) / 2 ^ Lib.ctz 64 m < 18446744073709551616 := Nat.lt_of_le_of_lt (Nat.div_le_self _ _) (by omega)
  have e4 : ((m - 1 : Nat) : Int) / 2 ^ Lib.ctz 64 m = (((m - 1) / 2 ^ Lib.ctz 64 m : Nat) : Int) := by simp
  have e1 : IntKind.u64.wrap ((m : Int) - 1) = ((m - 1 : Nat) : Int) := by rw [IntKind.wrap_u64]; omega
  have e3 : IntKind.u64.wrap ((Lib.ctz 64 m : Nat) : Int) = ((Lib.ctz 64 m : Nat) : Int) := wrapN _ (by omega)
  have hmin : min (Lib.ctz 64 m) 64 = Lib.ctz 64 m := by omega
  obtain ⟨wp1, wp2⟩ := pow_wrap (Lib.ctz 64 m) (by omega)
  rw [hcd] at hl y1 y2
  generalize (m - 1) / 2 ^ Lib.ctz 64 m = mk at *
  generalize hcc : Lib.ctz 64 m = c at *
  generalize Pl.bord (m - 1) s = b at *
  generalize hd0 : Pl.inn (m - 1) s = d0 at *
  clear hd0 hcd hcc
  obtain ⟨d, hd⟩ : ∃ d, d = d0 - c := ⟨_, rfl⟩
  rw [← hd] at hl y1 y2
  have e2 : IntKind.i64.wrap ((d0 : Int) - (c : Int)) = (d : Int) := by rw [IntWalk.i64_in _ (by omega)]; omega
  have hll : (Pl.lowbits d mk ++ List.replicate b true).length = d + b := by rw [List.length_append, Pl.lowbits_length, List.length_replicate]
  rw [hll] at hl
  have e5 : IntKind.i64.wrap ((1 : Int) + (d : Int)) = ((1 + d : Nat) : Int) := by rw [IntWalk.i64_in _ (by omega)]; omega
  have e5' : IntKind.i64.wrap (((1 + d : Nat) : Int) + (b : Int)) = ((d + b + 1 : Nat) : Int) := by rw [IntWalk.i64_in _ (by omega)]; omega
  generalize hx : ((1 + d : Nat) : Int) = dst at e5 e5'
  clear hx
  have hg : ¬ (s : Int) < (m : Int) := by omega
  have hg1 : decide (s < m) = false := decide_eq_false (by omega)
  have hg2 : ¬ (m : Int) = (s : Int) := by omega
  have hg3 : ((m : Int) == (s : Int)) = false := beq_eq_false_iff_ne.2 hg2
  have hg4 : ¬ (m : Int) = 0 := by omega
  have hg5 : ((m : Int) == 0) = false := beq_eq_false_iff_ne.2 hg4
  have hg6 : ¬ (L.length : Int) = 0 := by omega
  have hg7 : ((L.length : Int) == 0) = false := beq_eq_false_iff_ne.2 hg6
  have hg8 : (0 : Int) < (L.length : Int) := by omega
  obtain ⟨A, cap, rfl, hcap, hby, hat⟩ := id hv
  obtain ⟨A1, n1, k1, rfl⟩ := h1.form
  obtain ⟨A2, n2, k2, rfl⟩ := h2.form
  obtain ⟨g, o, rfl, hat2⟩ := hat hL0
  obtain ⟨u0, hu0, hb0⟩ := hat2 0 hL0
  obtain ⟨A3, n3, k3, rfl⟩ := hb0.form
  have hcell : w.cell? ⟨g, o, none⟩ = some (.slice A3 n3 k3) := by simpa using hu0
  have hb0' : BytesR w (.slice A3 n3 k3) (L.getD 0 []) := by rw [List.getD_eq_getElem?_getD, List.getElem?_eq_getElem hL0]; exact hb0
  clear hb0
  have hb0 := hb0'
  clear hb0'
  have HTT := Lib.hid hT
  have HPW : ((m : Int) == (2 : Int) ^ c) = false := beq_eq_false_iff_ne.2 (fun e => hpw (by rw [e]; simp))
  clear hpw
  have HK := Lib.hid ok
  clear hat hat2 hu0 hby

  have hlr : (L.drop 1).length = d + b := by rw [List.length_drop]; omega
  have r0 : ∀ W, (Instr.slice 27 (.slice (some ⟨g, o, none⟩) L.length cap) (some (.int .i64 (1 : Int))) none none).run Tryf.prog W = .ok (.slice (if cap = 1 then (some ⟨g, o, none⟩ : Option Addr) else (some (⟨g, o, none⟩ : Addr)).map (·.add (1 * 1))) (L.length - 1) (cap - 1)) W := fun W => hashes_tail (some ⟨g, o, none⟩) L.length cap 1 (by omega) W
  have HR := hv.tail (k := 1) (by omega)
  generalize (if cap = 1 then (some ⟨g, o, none⟩ : Option Addr) else (some (⟨g, o, none⟩ : Addr)).map (·.add (1 * 1))) = Ar at r0 HR
  rw [show L.length - 1 = d + b by omega] at r0 HR
  have hcq : d + b ≤ cap - 1 := by omega
  generalize cap - 1 = cq at r0 HR hcq
  have x1 := fun W => hashes_head Ar (d + b) cq d (by omega) W
  have x2 := fun W => hashes_tail Ar (d + b) cq d (by omega) W
  have HR1 := HR.head (k := d) (by omega)
  have HR2 := HR.tail (k := d) (by omega)
  rw [show d + b - d = b by omega] at x2 HR2
  generalize (if cq = 0 then Ar else Ar.map (·.add 0)) = Ax at x1 HR1
  generalize (if cq = d then Ar else Ar.map (·.add (d * 1))) = Ay at x2 HR2
  have hta : ((L.drop 1).take d).length = d := by rw [List.length_take, hlr]; omega
  have htb : ((L.drop 1).drop d).length = b := by rw [List.length_drop, hlr]; omega
  have hz : (Pl.lowbits d mk ++ List.replicate b true).zip (L.drop 1) = (Pl.lowbits d mk).zip ((L.drop 1).take d) ++ (List.replicate b true).zip ((L.drop 1).drop d) := by
    conv => lhs; rw [← List.take_append_drop d (L.drop 1)]
    rw [List.zip_append (by rw [hta, Pl.lowbits_length])]

  rw [List.drop_one] at *
  rw [hz, Pl.chainR_append] at y1

  have hrep : ∀ x, Pl.chainR h x ((List.replicate b true).zip (L.tail.drop d)) = Pl.chain h x ((List.replicate b true).zip (L.tail.drop d)) := fun x => by
    have := Pl.chainR_true h (L.tail.drop d) x
    rwa [htb] at this
  rw [hrep] at y1

  rw [hz, Pl.chain_append] at y2
  have HI1 := Lib.hid (fun W (hb : Below w.heap.size w W) => innerR_c h HK.out _ _ (L.getD 0 []) (L.tail.take d) mk hmask W (hb0.below hb) (HR1.below hb) (by omega))
  have HI2 := Lib.hid (fun W (hb : Below w.heap.size w W) => inner_c h HK.out _ _ (L.getD 0 []) (L.tail.take d) mk hmask W (hb0.below hb) (HR1.below hb) (by omega))
  have HBo := Lib.hid (fun (u : Value) (l : List Nat) W (hb : Below w.heap.size w W) (hu : BytesR W u l) => border_c h HK.out _ u l (L.tail.drop d) W hu (HR2.below hb) (by omega))
  have HY1 := Lib.hid (fun W (hb : Below w.heap.size w W) => h1.below hb)
  have HY2 := Lib.hid (fun W (hb : Below w.heap.size w W) => h2.below hb)
  rw [hta] at HI1 HI2
  rw [htb] at HBo
  generalize (Pl.lowbits d mk).zip (L.tail.take d) = z1 at *
  generalize (List.replicate b true).zip (L.tail.drop d) = z2 at *
  have Y1 := Lib.hid y1
  have Y2 := Lib.hid y2
  generalize hln : L.length = n at *
  rw [hl]
  clear hT ok hv h1 h2 hb0 hc1 hin hbd hm hm1 hs hq hq0 hL0 hLn hll hk64 hmask hd hcap hlr HR HR1 HR2 hta htb hz hrep hln y1 y2
  rw [hl] at hg6 hg7 hg8 r0
  clear hl
  generalize d + b + 1 = want at *
  generalize m - 1 = m1 at *
  unfold hasherV at HI1 HI2 HBo ⊢

  go_enter Tryf.func32, Tryf.ntmps32
  go_wp2_with fail
  refine (HD.out _).mono ?_; rintro e w' ⟨rfl, rfl⟩
  go_wp2_with fail
  refine (HZ.out _ HTT.out).mono ?_; rintro e w' ⟨rfl, rfl⟩
  go_wp2_with fail
  refine (HI1.out _ (Below.refl _ _)).mono ?_; rintro e w1 ⟨u1, rfl, hu1, hb1⟩
  have U1 := Lib.hid hu1
  obtain ⟨B1, p1, q1, rfl⟩ := hu1.form
  clear hu1
  go_wp2_with fail
  refine (HBo.out _ _ _ hb1 U1.out).mono ?_; rintro e w2 ⟨u2, rfl, hu2, hb2⟩
  have BB2 := hb1.trans (hb2.mono hb1.size)
  have U2 := Lib.hid hu2
  obtain ⟨B2, p2, q2, rfl⟩ := hu2.form
  clear hu2 hb1 hb2
  go_wp2_with fail

  refine (match_yes _ _ r1 _ (by have := U2.out; rwa [Y1.out] at this) (HY1.out _ BB2)).mono ?_; rintro e w3 ⟨rfl, rfl⟩
  go_wp2_with fail
  refine (HI2.out _ BB2).mono ?_; rintro e w4 ⟨u4, rfl, hu4, hb4⟩
  have BB4 := BB2.trans (hb4.mono BB2.size)
  have U4 := Lib.hid hu4
  obtain ⟨B4, p4, q4, rfl⟩ := hu4.form
  clear hu4 hb4
  go_wp2_with fail
  refine (HBo.out _ _ _ BB4 U4.out).mono ?_; rintro e w5 ⟨u5, rfl, hu5, hb5⟩
  have BB5 := BB4.trans (hb5.mono BB4.size)
  have U5 := Lib.hid hu5
  obtain ⟨B5, p5, q5, rfl⟩ := hu5.form
  clear hu5 hb5
  go_wp2_with fail

  refine (match_yes _ _ r2 _ (by have := U5.out; rwa [Y2.out] at this) (HY2.out _ BB5)).mono ?_; rintro e w6 ⟨rfl, rfl⟩
  go_wp2_with fail
  go_ret
  exact ⟨rfl, BB5⟩
set_option maxHeartbeats 2000000 in
theorem vc_mis10 (ok : h.ok) (m s q : Nat) (hT : Tab w) (hv : HashesR w v L) (h1 : BytesR w v1 r1) (h2 : BytesR w v2 r2) (hm1 : 1 ≤ m) (hm : m < s) (hs : s < 18446744073709551616) (hq : m = 2 ^ Lib.ctz 64 m * (2 * q + 1)) (hq0 : q = 0) (hL0 : 0 < L.length) (hLn : L.length ≤ 2147483647) (hl : L.length = (Pl.cd m s).length + 0) (y1 : ¬ Pl.chainR h r1 ((Pl.cd m s).zip L) = r1) :
    Calls Tryf.prog 32 #[hasherV h, .int .u64 (m : Int), .int .u64 (s : Int), v, v1, v2] w (RetMis w) := by
  have HZ := Lib.hid (fun W (hT : Tab W) => tz_c m (by omega) (by omega) W hT)
  have hk64 : Lib.ctz 64 m < 64 := by
    obtain ⟨_, _, h⟩ := ctz_odd m (by omega) (by omega)
    exact h
  obtain ⟨hc1, hcd⟩ := Pl.cd_code hm1 hm hs hq
  have hin := inn_le (show m - 1 < s by omega) hs
  have hbd : Pl.bord (m - 1) s ≤ 64 := Pl.pop_le 64 _
  have HD := Lib.hid (fun w => decomp_c (m - 1) s (by omega) hs w)
  have hp := Nat.two_pow_pos (Lib.ctz 64 m)
  have hpw : ((m : Nat) : Int) = ((2 ^ Lib.ctz 64 m : Nat) : Int) := by
    rw [hq0] at hq; simp only [Nat.mul_zero, Nat.zero_add, Nat.mul_one] at hq; exact congrArg (fun z : Nat => (z : Int)) hq
  have hmask : (m - 1) / 2 ^ Lib.ctz 64 m < 18446744073709551616 := Nat.lt_of_le_of_lt (Nat.div_le_self _ _) (by omega)
  have e4 : ((m - 1 : Nat) : Int) / 2 ^ Lib.ctz 64 m = (((m - 1) / 2 ^ Lib.ctz 64 m : Nat) : Int) := by simp
  have e1 : IntKind.u64.wrap ((m : Int) - 1) = ((m - 1 : Nat) : Int) := by rw [IntKind.wrap_u64]; omega
  have e3 : IntKind.u64.wrap ((Lib.ctz 64 m : Nat) : Int) = ((Lib.ctz 64 m : Nat) : Int) := wrapN _ (by omega)
  have hmin : min (Lib.ctz 64 m) 64 = Lib.ctz 64 m := by omega
  obtain ⟨wp1, wp2⟩ := pow_wrap (Lib.ctz 64 m) (by omega)
  rw [hcd] at hl y1
  generalize (m - 1) / 2 ^ Lib.ctz 64 m = mk at *
  generalize hcc : Lib.ctz 64 m = c at *
  generalize Pl.bord (m - 1) s = b at *
  generalize hd0 : Pl.inn (m - 1) s = d0 at *
  clear hd0 hcd hcc
  obtain ⟨d, hd⟩ : ∃ d, d = d0 - c := ⟨_, rfl⟩
  rw [← hd] at hl y1
  have e2 : IntKind.i64.wrap ((d0 : Int) - (c : Int)) = (d : Int) := by rw [IntWalk.i64_in _ (by omega)]; omega
  have hll : (Pl.lowbits d mk ++ List.replicate b true).length = d + b := by rw [List.length_append, Pl.lowbits_length, List.length_replicate]
  rw [hll] at hl
  have e5 : IntKind.i64.wrap (d : Int) = (d : Int) := IntWalk.i64_in _ (by omega)
  have e5' : IntKind.i64.wrap ((d : Int) + (b : Int)) = ((d + b + 0 : Nat) : Int) := by rw [IntWalk.i64_in _ (by omega)]; omega
  have hg : ¬ (s : Int) < (m : Int) := by omega
  have hg1 : decide (s < m) = false := decide_eq_false (by omega)
  have hg2 : ¬ (m : Int) = (s : Int) := by omega
  have hg3 : ((m : Int) == (s : Int)) = false := beq_eq_false_iff_ne.2 hg2
  have hg4 : ¬ (m : Int) = 0 := by omega
  have hg5 : ((m : Int) == 0) = false := beq_eq_false_iff_ne.2 hg4
  have hg6 : ¬ (L.length : Int) = 0 := by omega
  have hg7 : ((L.length : Int) == 0) = false := beq_eq_false_iff_ne.2 hg6
  have hg8 : (0 : Int) < (L.length : Int) := by omega
  obtain ⟨A, cap, rfl, hcap, hby, hat⟩ := id hv
  obtain ⟨A1, n1, k1, rfl⟩ := h1.form
  obtain ⟨A2, n2, k2, rfl⟩ := h2.form
  obtain ⟨g, o, rfl, hat2⟩ := hat hL0
  obtain ⟨u0, hu0, hb0⟩ := hat2 0 hL0
  obtain ⟨A3, n3, k3, rfl⟩ := hb0.form
  have hcell : w.cell? ⟨g, o, none⟩ = some (.slice A3 n3 k3) := by simpa using hu0
  have hb0' : BytesR w (.slice A3 n3 k3) (L.getD 0 []) := by rw [List.getD_eq_getElem?_getD, List.getElem?_eq_getElem hL0]; exact hb0
  clear hb0
  have hb0 := hb0'
  clear hb0'
  have HTT := Lib.hid hT
  have HPW : ((m : Int) == (2 : Int) ^ c) = true := by rw [hpw]; simp
  clear hpw
  have HK := Lib.hid ok
  clear hat hat2 hu0 hby

  have hlr : (L.drop 0).length = d + b := by rw [List.length_drop]; omega
  have r0 : ∀ W, (Instr.slice 27 (.slice (some ⟨g, o, none⟩) L.length cap) (some (.int .i64 (0 : Int))) none none).run Tryf.prog W = .ok (.slice (if cap = 0 then (some ⟨g, o, none⟩ : Option Addr) else (some (⟨g, o, none⟩ : Addr)).map (·.add (0 * 1))) (L.length - 0) (cap - 0)) W := fun W => hashes_tail (some ⟨g, o, none⟩) L.length cap 0 (by omega) W
  have HR := hv.tail (k := 0) (by omega)
  generalize (if cap = 0 then (some ⟨g, o, none⟩ : Option Addr) else (some (⟨g, o, none⟩ : Addr)).map (·.add (0 * 1))) = Ar at r0 HR
  rw [show L.length - 0 = d + b by omega] at r0 HR
  have hcq : d + b ≤ cap - 0 := by omega
  generalize cap - 0 = cq at r0 HR hcq
  have x1 := fun W => hashes_head Ar (d + b) cq d (by omega) W
  have x2 := fun W => hashes_tail Ar (d + b) cq d (by omega) W
  have HR1 := HR.head (k := d) (by omega)
  have HR2 := HR.tail (k := d) (by omega)
  rw [show d + b - d = b by omega] at x2 HR2
  generalize (if cq = 0 then Ar else Ar.map (·.add 0)) = Ax at x1 HR1
  generalize (if cq = d then Ar else Ar.map (·.add (d * 1))) = Ay at x2 HR2
  have hta : ((L.drop 0).take d).length = d := by rw [List.length_take, hlr]; omega
  have htb : ((L.drop 0).drop d).length = b := by rw [List.length_drop, hlr]; omega
  have hz : (Pl.lowbits d mk ++ List.replicate b true).zip (L.drop 0) = (Pl.lowbits d mk).zip ((L.drop 0).take d) ++ (List.replicate b true).zip ((L.drop 0).drop d) := by
    conv => lhs; rw [← List.take_append_drop d (L.drop 0)]
    rw [List.zip_append (by rw [hta, Pl.lowbits_length])]

  rw [show L.drop 0 = L from rfl] at *
  rw [hz, Pl.chainR_append] at y1

  have hrep : ∀ x, Pl.chainR h x ((List.replicate b true).zip (L.drop d)) = Pl.chain h x ((List.replicate b true).zip (L.drop d)) := fun x => by
    have := Pl.chainR_true h (L.drop d) x
    rwa [htb] at this
  rw [hrep] at y1

  have HI1 := Lib.hid (fun W (hb : Below w.heap.size w W) => innerR_c h HK.out _ _ r1 (L.take d) mk hmask W (h1.below hb) (HR1.below hb) (by omega))
  have HI2 := Lib.hid (fun W (hb : Below w.heap.size w W) => inner_c h HK.out _ _ r1 (L.take d) mk hmask W (h1.below hb) (HR1.below hb) (by omega))
  have HBo := Lib.hid (fun (u : Value) (l : List Nat) W (hb : Below w.heap.size w W) (hu : BytesR W u l) => border_c h HK.out _ u l (L.drop d) W hu (HR2.below hb) (by omega))
  have HY1 := Lib.hid (fun W (hb : Below w.heap.size w W) => h1.below hb)
  have HY2 := Lib.hid (fun W (hb : Below w.heap.size w W) => h2.below hb)
  rw [hta] at HI1 HI2
  rw [htb] at HBo
  generalize (Pl.lowbits d mk).zip (L.take d) = z1 at *
  generalize (List.replicate b true).zip (L.drop d) = z2 at *
  have Y1 := Lib.hid y1
  skip
  generalize hln : L.length = n at *
  rw [hl]
  clear hT ok hv h1 h2 hb0 hc1 hin hbd hm hm1 hs hq hq0 hL0 hLn hll hk64 hmask hd hcap hlr HR HR1 HR2 hta htb hz hrep hln y1
  rw [hl] at hg6 hg7 hg8 r0
  clear hl
  generalize d + b + 0 = want at *
  generalize m - 1 = m1 at *
  unfold hasherV at HI1 HI2 HBo ⊢

  go_enter Tryf.func32, Tryf.ntmps32
  go_wp2_with fail
  refine (HD.out _).mono ?_; rintro e w' ⟨rfl, rfl⟩
  go_wp2_with fail
  refine (HZ.out _ HTT.out).mono ?_; rintro e w' ⟨rfl, rfl⟩
  go_wp2_with fail
  refine (HI1.out _ (Below.refl _ _)).mono ?_; rintro e w1 ⟨u1, rfl, hu1, hb1⟩
  have U1 := Lib.hid hu1
  obtain ⟨B1, p1, q1, rfl⟩ := hu1.form
  clear hu1
  go_wp2_with fail
  refine (HBo.out _ _ _ hb1 U1.out).mono ?_; rintro e w2 ⟨u2, rfl, hu2, hb2⟩
  have BB2 := hb1.trans (hb2.mono hb1.size)
  have U2 := Lib.hid hu2
  obtain ⟨B2, p2, q2, rfl⟩ := hu2.form
  clear hu2 hb1 hb2
  go_wp2_with fail

  refine (match_no _ _ _ _ _ U2.out (HY1.out _ BB2) Y1.out).mono ?_; rintro e w3 ⟨rfl, rfl⟩
  go_wp2_with fail
  go_ret
  exact ⟨⟨_, _, _, _, _, _, rfl⟩, BB2⟩
set_option maxHeartbeats 2000000 in
theorem vc_mis11 (ok : h.ok) (m s q : Nat) (hT : Tab w) (hv : HashesR w v L) (h1 : BytesR w v1 r1) (h2 : BytesR w v2 r2) (hm1 : 1 ≤ m) (hm : m < s) (hs : s < 18446744073709551616) (hq : m = 2 ^ Lib.ctz 64 m * (2 * q + 1)) (hq0 : ¬ q = 0) (hL0 : 0 < L.length) (hLn : L.length ≤ 2147483647) (hl : L.length = (Pl.cd m s).length + 1) (y1 : ¬ Pl.chainR h (L.getD 0 []) ((Pl.cd m s).zip L.tail) = r1) :
    Calls Tryf.prog 32 #[hasherV h, .int .u64 (m : Int), .int .u64 (s : Int), v, v1, v2] w (RetMis w) := by
  have HZ := Lib.hid (fun W (hT : Tab W) => tz_c m (by omega) (by omega) W hT)
  have hk64 : Lib.ctz 64 m < 64 := by
    obtain ⟨_, _, h⟩ := ctz_odd m (by omega) (by omega)
    exact h
  obtain ⟨hc1, hcd⟩ := Pl.cd_code hm1 hm hs hq
  have hin := inn_le (show m - 1 < s by omega) hs
  have hbd : Pl.bord (m - 1) s ≤ 64 := Pl.pop_le 64 _
  have HD := Lib.hid (fun w => decomp_c (m - 1) s (by omega) hs w)
  have hp := Nat.two_pow_pos (Lib.ctz 64 m)
  have hpw : ¬ ((m : Nat) : Int) = ((2 ^ Lib.ctz 64 m : Nat) : Int) := by
    intro e; have e : m = 2 ^ Lib.ctz 64 m := Int.ofNat_inj.1 e; have h3 : 2 ^ Lib.ctz 64 m * 3 ≤ 2 ^ Lib.ctz 64 m * (2 * q + 1) := Nat.mul_le_mul_left _ (by omega); omega
  have hmask : (m - 1) / 2 ^ Lib.ctz 64 m < 18446744073709551616 := Nat.lt_of_le_of_lt (Nat.div_le_self _ _) (by omega)
  have e4 : ((m - 1 : Nat) : Int) / 2 ^ Lib.ctz 64 m = (((m - 1) / 2 ^ Lib.ctz 64 m : Nat) : Int) := by simp
  have e1 : IntKind.u64.wrap ((m : Int) - 1) = ((m - 1 : Nat) : Int) := by rw [IntKind.wrap_u64]; omega
  have e3 : IntKind.u64.wrap ((Lib.ctz 64 m : Nat) : Int) = ((Lib.ctz 64 m : Nat) : Int) := wrapN _ (by omega)
  have hmin : min (Lib.ctz 64 m) 64 = Lib.ctz 64 m := by omega
  obtain ⟨wp1, wp2⟩ := pow_wrap (Lib.ctz 64 m) (by omega)
  rw [hcd] at hl y1
  generalize (m - 1) / 2 ^ Lib.ctz 64 m = mk at *
  generalize hcc : Lib.ctz 64 m = c at *
  generalize Pl.bord (m - 1) s = b at *
  generalize hd0 : Pl.inn (m - 1) s = d0 at *
  clear hd0 hcd hcc
  obtain ⟨d, hd⟩ : ∃ d, d = d0 - c := ⟨_, rfl⟩
  rw [← hd] at hl y1
  have e2 : IntKind.i64.wrap ((d0 : Int) - (c : Int)) = (d : Int) := by rw [IntWalk.i64_in _ (by omega)]; omega
  have hll : (Pl.lowbits d mk ++ List.replicate b true).length = d + b := by rw [List.length_append, Pl.lowbits_length, List.length_replicate]
  rw [hll] at hl
  have e5 : IntKind.i64.wrap ((1 : Int) + (d : Int)) = ((1 + d : Nat) : Int) := by rw [IntWalk.i64_in _ (by omega)]; omega
  have e5' : IntKind.i64.wrap (((1 + d : Nat) : Int) + (b : Int)) = ((d + b + 1 : Nat) : Int) := by rw [IntWalk.i64_in _ (by omega)]; omega
  generalize hx : ((1 + d : Nat) : Int) = dst at e5 e5'
  clear hx
  have hg : ¬ (s : Int) < (m : Int) := by omega
  have hg1 : decide (s < m) = false := decide_eq_false (by omega)
  have hg2 : ¬ (m : Int) = (s : Int) := by omega
  have hg3 : ((m : Int) == (s : Int)) = false := beq_eq_false_iff_ne.2 hg2
  have hg4 : ¬ (m : Int) = 0 := by omega
  have hg5 : ((m : Int) == 0) = false := beq_eq_false_iff_ne.2 hg4
  have hg6 : ¬ (L.length : Int) = 0 := by omega
  have hg7 : ((L.length : Int) == 0) = false := beq_eq_false_iff_ne.2 hg6
  have hg8 : (0 : Int) < (L.length : Int) := by omega
  obtain ⟨A, cap, rfl, hcap, hby, hat⟩ := id hv
  obtain ⟨A1, n1, k1, rfl⟩ := h1.form
  obtain ⟨A2, n2, k2, rfl⟩ := h2.form
  obtain ⟨g, o, rfl, hat2⟩ := hat hL0
  obtain ⟨u0, hu0, hb0⟩ := hat2 0 hL0
  obtain ⟨A3, n3, k3, rfl⟩ := hb0.form
  have hcell : w.cell? ⟨g, o, none⟩ = some (.slice A3 n3 k3) := by simpa using hu0
  have hb0' : BytesR w (.slice A3 n3 k3) (L.getD 0 []) := by rw [List.getD_eq_getElem?_getD, List.getElem?_eq_getElem hL0]; exact hb0
  clear hb0
  have hb0 := hb0'
  clear hb0'
  have HTT := Lib.hid hT
  have HPW : ((m : Int) == (2 : Int) ^ c) = false := beq_eq_false_iff_ne.2 (fun e => hpw (by rw [e]; simp))
  clear hpw
  have HK := Lib.hid ok
  clear hat hat2 hu0 hby

  have hlr : (L.drop 1).length = d + b := by rw [List.length_drop]; omega
  have r0 : ∀ W, (Instr.slice 27 (.slice (some ⟨g, o, none⟩) L.length cap) (some (.int .i64 (1 : Int))) none none).run Tryf.prog W = .ok (.slice (if cap = 1 then (some ⟨g, o, none⟩ : Option Addr) else (some (⟨g, o, none⟩ : Addr)).map (·.add (1 * 1))) (L.length - 1) (cap - 1)) W := fun W => hashes_tail (some ⟨g, o, none⟩) L.length cap 1 (by omega) W
  have HR := hv.tail (k := 1) (by omega)
  generalize (if cap = 1 then (some ⟨g, o, none⟩ : Option Addr) else (some (⟨g, o, none⟩ : Addr)).map (·.add (1 * 1))) = Ar at r0 HR
  rw [show L.length - 1 = d + b by omega] at r0 HR
  have hcq : d + b ≤ cap - 1 := by omega
  generalize cap - 1 = cq at r0 HR hcq
  have x1 := fun W => hashes_head Ar (d + b) cq d (by omega) W
  have x2 := fun W => hashes_tail Ar (d + b) cq d (by omega) W
  have HR1 := HR.head (k := d) (by omega)
  have HR2 := HR.tail (k := d) (by omega)
  rw [show d + b - d = b by omega] at x2 HR2
  generalize (if cq = 0 then Ar else Ar.map (·.add 0)) = Ax at x1 HR1
  generalize (if cq = d then Ar else Ar.map (·.add (d * 1))) = Ay at x2 HR2
  have hta : ((L.drop 1).take d).length = d := by rw [List.length_take, hlr]; omega
  have htb : ((L.drop 1).drop d).length = b := by rw [List.length_drop, hlr]; omega
  have hz : (Pl.lowbits d mk ++ List.replicate b true).zip (L.drop 1) = (Pl.lowbits d mk).zip ((L.drop 1).take d) ++ (List.replicate b true).zip ((L.drop 1).drop d) := by
    conv => lhs; rw [← List.take_append_drop d (L.drop 1)]
    rw [List.zip_append (by rw [hta, Pl.lowbits_length])]

  rw [List.drop_one] at *
  rw [hz, Pl.chainR_append] at y1

  have hrep : ∀ x, Pl.chainR h x ((List.replicate b true).zip (L.tail.drop d)) = Pl.chain h x ((List.replicate b true).zip (L.tail.drop d)) := fun x => by
    have := Pl.chainR_true h (L.tail.drop d) x
    rwa [htb] at this
  rw [hrep] at y1

  have HI1 := Lib.hid (fun W (hb : Below w.heap.size w W) => innerR_c h HK.out _ _ (L.getD 0 []) (L.tail.take d) mk hmask W (hb0.below hb) (HR1.below hb) (by omega))
  have HI2 := Lib.hid (fun W (hb : Below w.heap.size w W) => inner_c h HK.out _ _ (L.getD 0 []) (L.tail.take d) mk hmask W (hb0.below hb) (HR1.below hb) (by omega))
  have HBo := Lib.hid (fun (u : Value) (l : List Nat) W (hb : Below w.heap.size w W) (hu : BytesR W u l) => border_c h HK.out _ u l (L.tail.drop d) W hu (HR2.below hb) (by omega))
  have HY1 := Lib.hid (fun W (hb : Below w.heap.size w W) => h1.below hb)
  have HY2 := Lib.hid (fun W (hb : Below w.heap.size w W) => h2.below hb)
  rw [hta] at HI1 HI2
  rw [htb] at HBo
  generalize (Pl.lowbits d mk).zip (L.tail.take d) = z1 at *
  generalize (List.replicate b true).zip (L.tail.drop d) = z2 at *
  have Y1 := Lib.hid y1
  skip
  generalize hln : L.length = n at *
  rw [hl]
  clear hT ok hv h1 h2 hb0 hc1 hin hbd hm hm1 hs hq hq0 hL0 hLn hll hk64 hmask hd hcap hlr HR HR1 HR2 hta htb hz hrep hln y1
  rw [hl] at hg6 hg7 hg8 r0
  clear hl
  generalize d + b + 1 = want at *
  generalize m - 1 = m1 at *
  unfold hasherV at HI1 HI2 HBo ⊢

  go_enter Tryf.func32, Tryf.ntmps32
  go_wp2_with fail
  refine (HD.out _).mono ?_; rintro e w' ⟨rfl, rfl⟩
  go_wp2_with fail
  refine (HZ.out _ HTT.out).mono ?_; rintro e w' ⟨rfl, rfl⟩
  go_wp2_with fail
  refine (HI1.out _ (Below.refl _ _)).mono ?_; rintro e w1 ⟨u1, rfl, hu1, hb1⟩
  have U1 := Lib.hid hu1
  obtain ⟨B1, p1, q1, rfl⟩ := hu1.form
  clear hu1
  go_wp2_with fail
  refine (HBo.out _ _ _ hb1 U1.out).mono ?_; rintro e w2 ⟨u2, rfl, hu2, hb2⟩
  have BB2 := hb1.trans (hb2.mono hb1.size)
  have U2 := Lib.hid hu2
  obtain ⟨B2, p2, q2, rfl⟩ := hu2.form
  clear hu2 hb1 hb2
  go_wp2_with fail

  refine (match_no _ _ _ _ _ U2.out (HY1.out _ BB2) Y1.out).mono ?_; rintro e w3 ⟨rfl, rfl⟩
  go_wp2_with fail
  go_ret
  exact ⟨⟨_, _, _, _, _, _, rfl⟩, BB2⟩
set_option maxHeartbeats 2000000 in
theorem vc_mis20 (ok : h.ok) (m s q : Nat) (hT : Tab w) (hv : HashesR w v L) (h1 : BytesR w v1 r1) (h2 : BytesR w v2 r2) (hm1 : 1 ≤ m) (hm : m < s) (hs : s < 18446744073709551616) (hq : m = 2 ^ Lib.ctz 64 m * (2 * q + 1)) (hq0 : q = 0) (hL0 : 0 < L.length) (hLn : L.length ≤ 2147483647) (hl : L.length = (Pl.cd m s).length + 0) (y1 : Pl.chainR h r1 ((Pl.cd m s).zip L) = r1) (y2 : ¬ Pl.chain h r1 ((Pl.cd m s).zip L) = r2) :
    Calls Tryf.prog 32 #[hasherV h, .int .u64 (m : Int), .int .u64 (s : Int), v, v1, v2] w (RetMis w) := by
  have HZ := Lib.hid (fun W (hT : Tab W) => tz_c m (by omega) (by omega) W hT)
  have hk64 : Lib.ctz 64 m < 64 := by
    obtain ⟨_, _, h⟩ := ctz_odd m (by omega) (by omega)
    exact h
  obtain ⟨hc1, hcd⟩ := Pl.cd_code hm1 hm hs hq
  have hin := inn_le (show m - 1 < s by omega) hs
  have hbd : Pl.bord (m - 1) s ≤ 64 := Pl.pop_le 64 _
  have HD := Lib.hid (fun w => decomp_c (m - 1) s (by omega) hs w)
  have hp := Nat.two_pow_pos (Lib.ctz 64 m)
  have hpw : ((m : Nat) : Int) = ((2 ^ Lib.ctz 64 m : Nat) : Int) := by
    rw [hq0] at hq; simp only [Nat.mul_zero, Nat.zero_add, Nat.mul_one] at hq; exact congrArg (fun z : Nat => (z : Int)) hq
  have hmask : (m - 1) / 2 ^ Lib.ctz 64 m < 18446744073709551616 := Nat.lt_of_le_of_lt (Nat.div_le_self _ _) (by omega)
  have e4 : ((m - 1 : Nat) : Int) / 2 ^ Lib.ctz 64 m = (((m - 1) / 2 ^ Lib.ctz 64 m : Nat) : Int) := by simp
  have e1 : IntKind.u64.wrap ((m : Int) - 1) = ((m - 1 : Nat) : Int) := by rw [IntKind.wrap_u64]; omega
  have e3 : IntKind.u64.wrap ((Lib.ctz 64 m : Nat) : Int) = ((Lib.ctz 64 m : Nat) : Int) := wrapN _ (by omega)
  have hmin : min (Lib.ctz 64 m) 64 = Lib.ctz 64 m := by omega
  obtain ⟨wp1, wp2⟩ := pow_wrap (Lib.ctz 64 m) (by omega)
  rw [hcd] at hl y1 y2
  generalize (m - 1) / 2 ^ Lib.ctz 64 m = mk at *
  generalize hcc : Lib.ctz 64 m = c at *
  generalize Pl.bord (m - 1) s = b at *
  generalize hd0 : Pl.inn (m - 1) s = d0 at *
  clear hd0 hcd hcc
  obtain ⟨d, hd⟩ : ∃ d, d = d0 - c := ⟨_, rfl⟩
  rw [← hd] at hl y1 y2
  have e2 : IntKind.i64.wrap ((d0 : Int) - (c : Int)) = (d : Int) := by rw [IntWalk.i64_in _ (by omega)]; omega
  have hll : (Pl.lowbits d mk ++ List.replicate b true).length = d + b := by rw [List.length_append, Pl.lowbits_length, List.length_replicate]
  rw [hll] at hl
  have e5 : IntKind.i64.wrap (d : Int) = (d : Int) := IntWalk.i64_in _ (by omega)
  have e5' : IntKind.i64.wrap ((d : Int) + (b : Int)) = ((d + b + 0 : Nat) : Int) := by rw [IntWalk.i64_in _ (by omega)]; omega
  have hg : ¬ (s : Int) < (m : Int) := by omega
  have hg1 : decide (s < m) = false := decide_eq_false (by omega)
  have hg2 : ¬ (m : Int) = (s : Int) := by omega
  have hg3 : ((m : Int) == (s : Int)) = false := beq_eq_false_iff_ne.2 hg2
  have hg4 : ¬ (m : Int) = 0 := by omega
  have hg5 : ((m : Int) == 0) = false := beq_eq_false_iff_ne.2 hg4
  have hg6 : ¬ (L.length : Int) = 0 := by omega
  have hg7 : ((L.length : Int) == 0) = false := beq_eq_false_iff_ne.2 hg6
  have hg8 : (0 : Int) < (L.length : Int) := by omega
  obtain ⟨A, cap, rfl, hcap, hby, hat⟩ := id hv
  obtain ⟨A1, n1, k1, rfl⟩ := h1.form
  obtain ⟨A2, n2, k2, rfl⟩ := h2.form
  obtain ⟨g, o, rfl, hat2⟩ := hat hL0
  obtain ⟨u0, hu0, hb0⟩ := hat2 0 hL0
  obtain ⟨A3, n3, k3, rfl⟩ := hb0.form
  have hcell : w.cell? ⟨g, o, none⟩ = some (.slice A3 n3 k3) := by simpa using hu0
  have hb0' : BytesR w (.slice A3 n3 k3) (L.getD 0 []) := by rw [List.getD_eq_getElem?_getD, List.getElem?_eq_getElem hL0]; exact hb0
  clear hb0
  have hb0 := hb0'
  clear hb0'
  have HTT := Lib.hid hT
  have HPW : ((m : Int) == (2 : Int) ^ c) = true := by rw [hpw]; simp
  clear hpw
  have HK := Lib.hid ok
  clear hat hat2 hu0 hby

  have hlr : (L.drop 0).length = d + b := by rw [List.length_drop]; omega
  have r0 : ∀ W, (Instr.slice 27 (.slice (some ⟨g, o, none⟩) L.length cap) (some (.int .i64 (0 : Int))) none none).run Tryf.prog W = .ok (.slice (if cap = 0 then (some ⟨g, o, none⟩ : Option Addr) else (some (⟨g, o, none⟩ : Addr)).map (·.add (0 * 1))) (L.length - 0) (cap - 0)) W := fun W => hashes_tail (some ⟨g, o, none⟩) L.length cap 0 (by omega) W
  have HR := hv.tail (k := 0) (by omega)
  generalize (if cap = 0 then (some ⟨g, o, none⟩ : Option Addr) else (some (⟨g, o, none⟩ : Addr)).map (·.add (0 * 1))) = Ar at r0 HR
  rw [show L.length - 0 = d + b by omega] at r0 HR
  have hcq : d + b ≤ cap - 0 := by omega
  generalize cap - 0 = cq at r0 HR hcq
  have x1 := fun W => hashes_head Ar (d + b) cq d (by omega) W
  have x2 := fun W => hashes_tail Ar (d + b) cq d (by omega) W
  have HR1 := HR.head (k := d) (by omega)
  have HR2 := HR.tail (k := d) (by omega)
  rw [show d + b - d = b by omega] at x2 HR2
  generalize (if cq = 0 then Ar else Ar.map (·.add 0)) = Ax at x1 HR1
  generalize (if cq = d then Ar else Ar.map (·.add (d * 1))) = Ay at x2 HR2
  have hta : ((L.drop 0).take d).length = d := by rw [List.length_take, hlr]; omega
  have htb : ((L.drop 0).drop d).length = b := by rw [List.length_drop, hlr]; omega
  have hz : (Pl.lowbits d mk ++ List.replicate b true).zip (L.drop 0) = (Pl.lowbits d mk).zip ((L.drop 0).take d) ++ (List.replicate b true).zip ((L.drop 0).drop d) := by
    conv => lhs; rw [← List.take_append_drop d (L.drop 0)]
    rw [List.zip_append (by rw [hta, Pl.lowbits_length])]

  rw [show L.drop 0 = L from rfl] at *
  rw [hz, Pl.chainR_append] at y1

  have hrep : ∀ x, Pl.chainR h x ((List.replicate b true).zip (L.drop d)) = Pl.chain h x ((List.replicate b true).zip (L.drop d)) := fun x => by
    have := Pl.chainR_true h (L.drop d) x
    rwa [htb] at this
  rw [hrep] at y1

  rw [hz, Pl.chain_append] at y2
  have HI1 := Lib.hid (fun W (hb : Below w.heap.size w W) => innerR_c h HK.out _ _ r1 (L.take d) mk hmask W (h1.below hb) (HR1.below hb) (by omega))
  have HI2 := Lib.hid (fun W (hb : Below w.heap.size w W) => inner_c h HK.out _ _ r1 (L.take d) mk hmask W (h1.below hb) (HR1.below hb) (by omega))
  have HBo := Lib.hid (fun (u : Value) (l : List Nat) W (hb : Below w.heap.size w W) (hu : BytesR W u l) => border_c h HK.out _ u l (L.drop d) W hu (HR2.below hb) (by omega))
  have HY1 := Lib.hid (fun W (hb : Below w.heap.size w W) => h1.below hb)
  have HY2 := Lib.hid (fun W (hb : Below w.heap.size w W) => h2.below hb)
  rw [hta] at HI1 HI2
  rw [htb] at HBo
  generalize (Pl.lowbits d mk).zip (L.take d) = z1 at *
  generalize (List.replicate b true).zip (L.drop d) = z2 at *
  have Y1 := Lib.hid y1
  have Y2 := Lib.hid y2
  generalize hln : L.length = n at *
  rw [hl]
  clear hT ok hv h1 h2 hb0 hc1 hin hbd hm hm1 hs hq hq0 hL0 hLn hll hk64 hmask hd hcap hlr HR HR1 HR2 hta htb hz hrep hln y1 y2
  rw [hl] at hg6 hg7 hg8 r0
  clear hl
  generalize d + b + 0 = want at *
  generalize m - 1 = m1 at *
  unfold hasherV at HI1 HI2 HBo ⊢

  go_enter Tryf.func32, Tryf.ntmps32
  go_wp2_with fail
  refine (HD.out _).mono ?_; rintro e w' ⟨rfl, rfl⟩
  go_wp2_with fail
  refine (HZ.out _ HTT.out).mono ?_; rintro e w' ⟨rfl, rfl⟩
  go_wp2_with fail
  refine (HI1.out _ (Below.refl _ _)).mono ?_; rintro e w1 ⟨u1, rfl, hu1, hb1⟩
  have U1 := Lib.hid hu1
  obtain ⟨B1, p1, q1, rfl⟩ := hu1.form
  clear hu1
  go_wp2_with fail
  refine (HBo.out _ _ _ hb1 U1.out).mono ?_; rintro e w2 ⟨u2, rfl, hu2, hb2⟩
  have BB2 := hb1.trans (hb2.mono hb1.size)
  have U2 := Lib.hid hu2
  obtain ⟨B2, p2, q2, rfl⟩ := hu2.form
  clear hu2 hb1 hb2
  go_wp2_with fail

  refine (match_yes _ _ r1 _ (by have := U2.out; rwa [Y1.out] at this) (HY1.out _ BB2)).mono ?_; rintro e w3 ⟨rfl, rfl⟩
  go_wp2_with fail
  refine (HI2.out _ BB2).mono ?_; rintro e w4 ⟨u4, rfl, hu4, hb4⟩
  have BB4 := BB2.trans (hb4.mono BB2.size)
  have U4 := Lib.hid hu4
  obtain ⟨B4, p4, q4, rfl⟩ := hu4.form
  clear hu4 hb4
  go_wp2_with fail
  refine (HBo.out _ _ _ BB4 U4.out).mono ?_; rintro e w5 ⟨u5, rfl, hu5, hb5⟩
  have BB5 := BB4.trans (hb5.mono BB4.size)
  have U5 := Lib.hid hu5
  obtain ⟨B5, p5, q5, rfl⟩ := hu5.form
  clear hu5 hb5
  go_wp2_with fail

  refine (match_no _ _ _ _ _ U5.out (HY2.out _ BB5) Y2.out).mono ?_; rintro e w6 ⟨rfl, rfl⟩
  go_wp2_with fail
  go_ret
  exact ⟨⟨_, _, _, _, _, _, rfl⟩, BB5⟩
set_option maxHeartbeats 2000000 in
theorem vc_mis21 (ok : h.ok) (m s q : Nat) (hT : Tab w) (hv : HashesR w v L) (h1 : BytesR w v1 r1) (h2 : BytesR w v2 r2) (hm1 : 1 ≤ m) (hm : m < s) (hs : s < 18446744073709551616) (hq : m = 2 ^ Lib.ctz 64 m * (2 * q + 1)) (hq0 : ¬ q = 0) (hL0 : 0 < L.length) (hLn : L.length ≤ 2147483647) (hl : L.length = (Pl.cd m s).length + 1) (y1 : Pl.chainR h (L.getD 0 []) ((Pl.cd m s).zip L.tail) = r1) (y2 : ¬ Pl.chain h (L.getD 0 []) ((Pl.cd m s).zip L.tail) = r2) :
    Calls Tryf.prog 32 #[hasherV h, .int .u64 (m : Int), .int .u64 (s : Int), v, v1, v2] w (RetMis w) := by
  have HZ := Lib.hid (fun W (hT : Tab W) => tz_c m (by omega) (by omega) W hT)
  have hk64 : Lib.ctz 64 m < 64 := by
    obtain ⟨_, _, h⟩ := ctz_odd m (by omega) (by omega)
    exact h
  obtain ⟨hc1, hcd⟩ := Pl.cd_code hm1 hm hs hq
  have hin := inn_le (show m - 1 < s by omega) hs
  have hbd : Pl.bord (m - 1) s ≤ 64 := Pl.pop_le 64 _
  have HD := Lib.hid (fun w => decomp_c (m - 1) s (by omega) hs w)
  have hp := Nat.two_pow_pos (Lib.ctz 64 m)
  have hpw : ¬ ((m : Nat) : Int) = ((2 ^ Lib.ctz 64 m : Nat) : Int) := by
    intro e; have e : m = 2 ^ Lib.ctz 64 m := Int.ofNat_inj.1 e; have h3 : 2 ^ Lib.ctz 64 m * 3 ≤ 2 ^ Lib.ctz 64 m * (2 * q + 1) := Nat.mul_le_mul_left _ (by omega); omega
  have hmask : (m - 1) / 2 ^ Lib.ctz 64 m < 18446744073709551616 := Nat.lt_of_le_of_lt (Nat.div_le_self _ _) (by omega)
  have e4 : ((m - 1 : Nat) : Int) / 2 ^ Lib.ctz 64 m = (((m - 1) / 2 ^ Lib.ctz 64 m : Nat) : Int) := by simp
  have e1 : IntKind.u64.wrap ((m : Int) - 1) = ((m - 1 : Nat) : Int) := by rw [IntKind.wrap_u64]; omega
  have e3 : IntKind.u64.wrap ((Lib.ctz 64 m : Nat) : Int) = ((Lib.ctz 64 m : Nat) : Int) := wrapN _ (by omega)
  have hmin : min (Lib.ctz 64 m) 64 = Lib.ctz 64 m := by omega
  obtain ⟨wp1, wp2⟩ := pow_wrap (Lib.ctz 64 m) (by omega)
  rw [hcd] at hl y1 y2
  generalize (m - 1) / 2 ^ Lib.ctz 64 m = mk at *
  generalize hcc : Lib.ctz 64 m = c at *
  generalize Pl.bord (m - 1) s = b at *
  generalize hd0 : Pl.inn (m - 1) s = d0 at *
  clear hd0 hcd hcc
  obtain ⟨d, hd⟩ : ∃ d, d = d0 - c := ⟨_, rfl⟩
  rw [← hd] at hl y1 y2
  have e2 : IntKind.i64.wrap ((d0 : Int) - (c : Int)) = (d : Int) := by rw [IntWalk.i64_in _ (by omega)]; omega
  have hll : (Pl.lowbits d mk ++ List.replicate b true).length = d + b := by rw [List.length_append, Pl.lowbits_length, List.length_replicate]
  rw [hll] at hl
  have e5 : IntKind.i64.wrap ((1 : Int) + (d : Int)) = ((1 + d : Nat) : Int) := by rw [IntWalk.i64_in _ (by omega)]; omega
  have e5' : IntKind.i64.wrap (((1 + d : Nat) : Int) + (b : Int)) = ((d + b + 1 : Nat) : Int) := by rw [IntWalk.i64_in _ (by omega)]; omega
  generalize hx : ((1 + d : Nat) : Int) = dst at e5 e5'
  clear hx
  have hg : ¬ (s : Int) < (m : Int) := by omega
  have hg1 : decide (s < m) = false := decide_eq_false (by omega)
  have hg2 : ¬ (m : Int) = (s : Int) := by omega
  have hg3 : ((m : Int) == (s : Int)) = false := beq_eq_false_iff_ne.2 hg2
  have hg4 : ¬ (m : Int) = 0 := by omega
  have hg5 : ((m : Int) == 0) = false := beq_eq_false_iff_ne.2 hg4
  have hg6 : ¬ (L.length : Int) = 0 := by omega
  have hg7 : ((L.length : Int) == 0) = false := beq_eq_false_iff_ne.2 hg6
  have hg8 : (0 : Int) < (L.length : Int) := by omega
  obtain ⟨A, cap, rfl, hcap, hby, hat⟩ := id hv
  obtain ⟨A1, n1, k1, rfl⟩ := h1.form
  obtain ⟨A2, n2, k2, rfl⟩ := h2.form
  obtain ⟨g, o, rfl, hat2⟩ := hat hL0
  obtain ⟨u0, hu0, hb0⟩ := hat2 0 hL0
  obtain ⟨A3, n3, k3, rfl⟩ := hb0.form
  have hcell : w.cell? ⟨g, o, none⟩ = some (.slice A3 n3 k3) := by simpa using hu0
  have hb0' : BytesR w (.slice A3 n3 k3) (L.getD 0 []) := by rw [List.getD_eq_getElem?_getD, List.getElem?_eq_getElem hL0]; exact hb0
  clear hb0
  have hb0 := hb0'
  clear hb0'
  have HTT := Lib.hid hT
  have HPW : ((m : Int) == (2 : Int) ^ c) = false := beq_eq_false_iff_ne.2 (fun e => hpw (by rw [e]; simp))
  clear hpw
  have HK := Lib.hid ok
  clear hat hat2 hu0 hby

  have hlr : (L.drop 1).length = d + b := by rw [List.length_drop]; omega
  have r0 : ∀ W, (Instr.slice 27 (.slice (some ⟨g, o, none⟩) L.length cap) (some (.int .i64 (1 : Int))) none none).run Tryf.prog W = .ok (.slice (if cap = 1 then (some ⟨g, o, none⟩ : Option Addr) else (some (⟨g, o, none⟩ : Addr)).map (·.add (1 * 1))) (L.length - 1) (cap - 1)) W := fun W => hashes_tail (some ⟨g, o, none⟩) L.length cap 1 (by omega) W
  have HR := hv.tail (k := 1) (by omega)
  generalize (if cap = 1 then (some ⟨g, o, none⟩ : Option Addr) else (some (⟨g, o, none⟩ : Addr)).map (·.add (1 * 1))) = Ar at r0 HR
  rw [show L.length - 1 = d + b by omega] at r0 HR
  have hcq : d + b ≤ cap - 1 := by omega
  generalize cap - 1 = cq at r0 HR hcq
  have x1 := fun W => hashes_head Ar (d + b) cq d (by omega) W
  have x2 := fun W => hashes_tail Ar (d + b) cq d (by omega) W
  have HR1 := HR.head (k := d) (by omega)
  have HR2 := HR.tail (k := d) (by omega)
  rw [show d + b - d = b by omega] at x2 HR2
  generalize (if cq = 0 then Ar else Ar.map (·.add 0)) = Ax at x1 HR1
  generalize (if cq = d then Ar else Ar.map (·.add (d * 1))) = Ay at x2 HR2
  have hta : ((L.drop 1).take d).length = d := by rw [List.length_take, hlr]; omega
  have htb : ((L.drop 1).drop d).length = b := by rw [List.length_drop, hlr]; omega
  have hz : (Pl.lowbits d mk ++ List.replicate b true).zip (L.drop 1) = (Pl.lowbits d mk).zip ((L.drop 1).take d) ++ (List.replicate b true).zip ((L.drop 1).drop d) := by
    conv => lhs; rw [← List.take_append_drop d (L.drop 1)]
    rw [List.zip_append (by rw [hta, Pl.lowbits_length])]

  rw [List.drop_one] at *
  rw [hz, Pl.chainR_append] at y1

  have hrep : ∀ x, Pl.chainR h x ((List.replicate b true).zip (L.tail.drop d)) = Pl.chain h x ((List.replicate b true).zip (L.tail.drop d)) := fun x => by
    have := Pl.chainR_true h (L.tail.drop d) x
    rwa [htb] at this
  rw [hrep] at y1

  rw [hz, Pl.chain_append] at y2
  have HI1 := Lib.hid (fun W (hb : Below w.heap.size w W) => innerR_c h HK.out _ _ (L.getD 0 []) (L.tail.take d) mk hmask W (hb0.below hb) (HR1.below hb) (by omega))
  have HI2 := Lib.hid (fun W (hb : Below w.heap.size w W) => inner_c h HK.out _ _ (L.getD 0 []) (L.tail.take d) mk hmask W (hb0.below hb) (HR1.below hb) (by omega))
  have HBo := Lib.hid (fun (u : Value) (l : List Nat) W (hb : Below w.heap.size w W) (hu : BytesR W u l) => border_c h HK.out _ u l (L.tail.drop d) W hu (HR2.below hb) (by omega))
  have HY1 := Lib.hid (fun W (hb : Below w.heap.size w W) => h1.below hb)
  have HY2 := Lib.hid (fun W (hb : Below w.heap.size w W) => h2.below hb)
  rw [hta] at HI1 HI2
  rw [htb] at HBo
  generalize (Pl.lowbits d mk).zip (L.tail.take d) = z1 at *
  generalize (List.replicate b true).zip (L.tail.drop d) = z2 at *
  have Y1 := Lib.hid y1
  have Y2 := Lib.hid y2
  generalize hln : L.length = n at *
  rw [hl]
  clear hT ok hv h1 h2 hb0 hc1 hin hbd hm hm1 hs hq hq0 hL0 hLn hll hk64 hmask hd hcap hlr HR HR1 HR2 hta htb hz hrep hln y1 y2
  rw [hl] at hg6 hg7 hg8 r0
  clear hl
  generalize d + b + 1 = want at *
  generalize m - 1 = m1 at *
  unfold hasherV at HI1 HI2 HBo ⊢

  go_enter Tryf.func32, Tryf.ntmps32
  go_wp2_with fail
  refine (HD.out _).mono ?_; rintro e w' ⟨rfl, rfl⟩
  go_wp2_with fail
  refine (HZ.out _ HTT.out).mono ?_; rintro e w' ⟨rfl, rfl⟩
  go_wp2_with fail
  refine (HI1.out _ (Below.refl _ _)).mono ?_; rintro e w1 ⟨u1, rfl, hu1, hb1⟩
  have U1 := Lib.hid hu1
  obtain ⟨B1, p1, q1, rfl⟩ := hu1.form
  clear hu1
  go_wp2_with fail
  refine (HBo.out _ _ _ hb1 U1.out).mono ?_; rintro e w2 ⟨u2, rfl, hu2, hb2⟩
  have BB2 := hb1.trans (hb2.mono hb1.size)
  have U2 := Lib.hid hu2
  obtain ⟨B2, p2, q2, rfl⟩ := hu2.form
  clear hu2 hb1 hb2
  go_wp2_with fail

  refine (match_yes _ _ r1 _ (by have := U2.out; rwa [Y1.out] at this) (HY1.out _ BB2)).mono ?_; rintro e w3 ⟨rfl, rfl⟩
  go_wp2_with fail
  refine (HI2.out _ BB2).mono ?_; rintro e w4 ⟨u4, rfl, hu4, hb4⟩
  have BB4 := BB2.trans (hb4.mono BB2.size)
  have U4 := Lib.hid hu4
  obtain ⟨B4, p4, q4, rfl⟩ := hu4.form
  clear hu4 hb4
  go_wp2_with fail
  refine (HBo.out _ _ _ BB4 U4.out).mono ?_; rintro e w5 ⟨u5, rfl, hu5, hb5⟩
  have BB5 := BB4.trans (hb5.mono BB4.size)
  have U5 := Lib.hid hu5
  obtain ⟨B5, p5, q5, rfl⟩ := hu5.form
  clear hu5 hb5
  go_wp2_with fail

  refine (match_no _ _ _ _ _ U5.out (HY2.out _ BB5) Y2.out).mono ?_; rintro e w6 ⟨rfl, rfl⟩
  go_wp2_with fail
  go_ret
  exact ⟨⟨_, _, _, _, _, _, rfl⟩, BB5⟩
set_option maxHeartbeats 2000000 in
theorem vc_len0 (hF : F.answers w.tape) (ok : h.ok) (m s q : Nat) (hT : Tab w) (hv : HashesR w v L) (h1 : BytesR w v1 r1) (h2 : BytesR w v2 r2) (hm1 : 1 ≤ m) (hm : m < s) (hs : s < 18446744073709551616) (hq : m = 2 ^ Lib.ctz 64 m * (2 * q + 1)) (hq0 : q = 0) (hL0 : 0 < L.length) (hLn : L.length ≤ 2147483647) (hl : ¬ L.length = (Pl.cd m s).length + 0)  :
    Calls Tryf.prog 32 #[hasherV h, .int .u64 (m : Int), .int .u64 (s : Int), v, v1, v2] w (RetErr w) := by
  have HZ := Lib.hid (fun W (hT : Tab W) => tz_c m (by omega) (by omega) W hT)
  have hk64 : Lib.ctz 64 m < 64 := by
    obtain ⟨_, _, h⟩ := ctz_odd m (by omega) (by omega)
    exact h
  obtain ⟨hc1, hcd⟩ := Pl.cd_code hm1 hm hs hq
  have hin := inn_le (show m - 1 < s by omega) hs
  have hbd : Pl.bord (m - 1) s ≤ 64 := Pl.pop_le 64 _
  have HD := Lib.hid (fun w => decomp_c (m - 1) s (by omega) hs w)
  have hp := Nat.two_pow_pos (Lib.ctz 64 m)
  have hpw : ((m : Nat) : Int) = ((2 ^ Lib.ctz 64 m : Nat) : Int) := by
    rw [hq0] at hq; simp only [Nat.mul_zero, Nat.zero_add, Nat.mul_one] at hq; exact congrArg (fun z : Nat => (z : Int)) hq
  have hmask : (m - 1) / 2 ^ Lib.ctz 64 m < 18446744073709551616 := Nat.lt_of_le_of_lt (Nat.div_le_self _ _) (by omega)
  have e4 : ((m - 1 : Nat) : Int) / 2 ^ Lib.ctz 64 m = (((m - 1) / 2 ^ Lib.ctz 64 m : Nat) : Int) := by simp
  have e1 : IntKind.u64.wrap ((m : Int) - 1) = ((m - 1 : Nat) : Int) := by rw [IntKind.wrap_u64]; omega
  have e3 : IntKind.u64.wrap ((Lib.ctz 64 m : Nat) : Int) = ((Lib.ctz 64 m : Nat) : Int) := wrapN _ (by omega)
  have hmin : min (Lib.ctz 64 m) 64 = Lib.ctz 64 m := by omega
  obtain ⟨wp1, wp2⟩ := pow_wrap (Lib.ctz 64 m) (by omega)
  rw [hcd] at hl
  generalize (m - 1) / 2 ^ Lib.ctz 64 m = mk at *
  generalize hcc : Lib.ctz 64 m = c at *
  generalize Pl.bord (m - 1) s = b at *
  generalize hd0 : Pl.inn (m - 1) s = d0 at *
  clear hd0 hcd hcc
  obtain ⟨d, hd⟩ : ∃ d, d = d0 - c := ⟨_, rfl⟩
  rw [← hd] at hl
  have e2 : IntKind.i64.wrap ((d0 : Int) - (c : Int)) = (d : Int) := by rw [IntWalk.i64_in _ (by omega)]; omega
  have hll : (Pl.lowbits d mk ++ List.replicate b true).length = d + b := by rw [List.length_append, Pl.lowbits_length, List.length_replicate]
  rw [hll] at hl
  have e5 : IntKind.i64.wrap (d : Int) = (d : Int) := IntWalk.i64_in _ (by omega)
  have e5' : IntKind.i64.wrap ((d : Int) + (b : Int)) = ((d + b + 0 : Nat) : Int) := by rw [IntWalk.i64_in _ (by omega)]; omega
  have hg : ¬ (s : Int) < (m : Int) := by omega
  have hg1 : decide (s < m) = false := decide_eq_false (by omega)
  have hg2 : ¬ (m : Int) = (s : Int) := by omega
  have hg3 : ((m : Int) == (s : Int)) = false := beq_eq_false_iff_ne.2 hg2
  have hg4 : ¬ (m : Int) = 0 := by omega
  have hg5 : ((m : Int) == 0) = false := beq_eq_false_iff_ne.2 hg4
  have hg6 : ¬ (L.length : Int) = 0 := by omega
  have hg7 : ((L.length : Int) == 0) = false := beq_eq_false_iff_ne.2 hg6
  have hg8 : (0 : Int) < (L.length : Int) := by omega
  obtain ⟨A, cap, rfl, hcap, hby, hat⟩ := id hv
  obtain ⟨A1, n1, k1, rfl⟩ := h1.form
  obtain ⟨A2, n2, k2, rfl⟩ := h2.form
  obtain ⟨g, o, rfl, hat2⟩ := hat hL0
  obtain ⟨u0, hu0, hb0⟩ := hat2 0 hL0
  obtain ⟨A3, n3, k3, rfl⟩ := hb0.form
  have hcell : w.cell? ⟨g, o, none⟩ = some (.slice A3 n3 k3) := by simpa using hu0
  have hb0' : BytesR w (.slice A3 n3 k3) (L.getD 0 []) := by rw [List.getD_eq_getElem?_getD, List.getElem?_eq_getElem hL0]; exact hb0
  clear hb0
  have hb0 := hb0'
  clear hb0'
  have HTT := Lib.hid hT
  have HPW : ((m : Int) == (2 : Int) ^ c) = true := by rw [hpw]; simp
  clear hpw
  have HK := Lib.hid ok
  clear hat hat2 hu0 hby

  have HF := Lib.hid (fun (W : World) (hb : Below w.heap.size w W) => ans_below hF hb)
  have hne : ¬ (L.length : Int) = ((d + b + 0 : Nat) : Int) := by omega
  generalize d + b + 0 = want at *
  clear hF hT ok hv h1 h2 hb0 hc1 hin hbd hm hm1 hs hq hq0 hL0 hLn hl hll hk64 hmask hd hcap
  generalize L.length = n at *
  generalize m - 1 = m1 at *
  unfold hasherV
  go_enter Tryf.func32, Tryf.ntmps32
  go_wp2_with fail
  refine (HD.out _).mono ?_; rintro e w' ⟨rfl, rfl⟩
  go_wp2_with fail
  refine (HZ.out _ HTT.out).mono ?_; rintro e w' ⟨rfl, rfl⟩
  go_wp2_with fail
  have B1 := (Below.refl w.heap.size w).alloc (Nat.le_refl _) (.cells #[.iface 3 (.int .i64 (n : Int)), .iface 3 (.int .i64 (want : Int))] 20)
  refine (errorf_ii F _ fmtWrongC (n : Int) (want : Int) w.heap.size _ (HF.out _ B1) (by simp) (by simp)).mono ?_
  rintro r w1 ⟨⟨ge, rfl⟩, hb⟩
  have B2 := B1.trans (hb.mono B1.size)
  clear hb B1
  go_wp2_with fail
  go_ret
  exact ⟨⟨ge, rfl⟩, B2⟩
set_option maxHeartbeats 2000000 in
theorem vc_len1 (hF : F.answers w.tape) (ok : h.ok) (m s q : Nat) (hT : Tab w) (hv : HashesR w v L) (h1 : BytesR w v1 r1) (h2 : BytesR w v2 r2) (hm1 : 1 ≤ m) (hm : m < s) (hs : s < 18446744073709551616) (hq : m = 2 ^ Lib.ctz 64 m * (2 * q + 1)) (hq0 : ¬ q = 0) (hL0 : 0 < L.length) (hLn : L.length ≤ 2147483647) (hl : ¬ L.length = (Pl.cd m s).length + 1)  :
    Calls Tryf.prog 32 #[hasherV h, .int .u64 (m : Int), .int .u64 (s : Int), v, v1, v2] w (RetErr w) := by
  have HZ := Lib.hid (fun W (hT : Tab W) => tz_c m (by omega) (by omega) W hT)
  have hk64 : Lib.ctz 64 m < 64 := by
    obtain ⟨_, _, h⟩ := ctz_odd m (by omega) (by omega)
    exact h
  obtain ⟨hc1, hcd⟩ := Pl.cd_code hm1 hm hs hq
  have hin := inn_le (show m - 1 < s by omega) hs
  have hbd : Pl.bord (m - 1) s ≤ 64 := Pl.pop_le 64 _
  have HD := Lib.hid (fun w => decomp_c (m - 1) s (by omega) hs w)
  have hp := Nat.two_pow_pos (Lib.ctz 64 m)
  have hpw : ¬ ((m : Nat) : Int) = ((2 ^ Lib.ctz 64 m : Nat) : Int) := by
    intro e; have e : m = 2 ^ Lib.ctz 64 m := Int.ofNat_inj.1 e; have h3 : 2 ^ Lib.ctz 64 m * 3 ≤ 2 ^ Lib.ctz 64 m * (2 * q + 1) := Nat.mul_le_mul_left _ (by omega); omega
  have hmask : (m - 1) / 2 ^ Lib.ctz 64 m < 18446744073709551616 := Nat.lt_of_le_of_lt (Nat.div_le_self _ _) (by omega)
  have e4 : ((m - 1 : Nat) : Int) / 2 ^ Lib.ctz 64 m = (((m - 1) / 2 ^ Lib.ctz 64 m : Nat) : Int) := by simp
  have e1 : IntKind.u64.wrap ((m : Int) - 1) = ((m - 1 : Nat) : Int) := by rw [IntKind.wrap_u64]; omega
  have e3 : IntKind.u64.wrap ((Lib.ctz 64 m : Nat) : Int) = ((Lib.ctz 64 m : Nat) : Int) := wrapN _ (by omega)
  have hmin : min (Lib.ctz 64 m) 64 = Lib.ctz 64 m := by omega
  obtain ⟨wp1, wp2⟩ := pow_wrap (Lib.ctz 64 m) (by omega)
  rw [hcd] at hl
  generalize (m - 1) / 2 ^ Lib.ctz 64 m = mk at *
  generalize hcc : Lib.ctz 64 m = c at *
  generalize Pl.bord (m - 1) s = b at *
  generalize hd0 : Pl.inn (m - 1) s = d0 at *
  clear hd0 hcd hcc
  obtain ⟨d, hd⟩ : ∃ d, d = d0 - c := ⟨_, rfl⟩
  rw [← hd] at hl
  have e2 : IntKind.i64.wrap ((d0 : Int) - (c : Int)) = (d : Int) := by rw [IntWalk.i64_in _ (by omega)]; omega
  have hll : (Pl.lowbits d mk ++ List.replicate b true).length = d + b := by rw [List.length_append, Pl.lowbits_length, List.length_replicate]
  rw [hll] at hl
  have e5 : IntKind.i64.wrap ((1 : Int) + (d : Int)) = ((1 + d : Nat) : Int) := by rw [IntWalk.i64_in _ (by omega)]; omega
  have e5' : IntKind.i64.wrap (((1 + d : Nat) : Int) + (b : Int)) = ((d + b + 1 : Nat) : Int) := by rw [IntWalk.i64_in _ (by omega)]; omega
  generalize hx : ((1 + d : Nat) : Int) = dst at e5 e5'
  clear hx
  have hg : ¬ (s : Int) < (m : Int) := by omega
  have hg1 : decide (s < m) = false := decide_eq_false (by omega)
  have hg2 : ¬ (m : Int) = (s : Int) := by omega
  have hg3 : ((m : Int) == (s : Int)) = false := beq_eq_false_iff_ne.2 hg2
  have hg4 : ¬ (m : Int) = 0 := by omega
  have hg5 : ((m : Int) == 0) = false := beq_eq_false_iff_ne.2 hg4
  have hg6 : ¬ (L.length : Int) = 0 := by omega
  have hg7 : ((L.length : Int) == 0) = false := beq_eq_false_iff_ne.2 hg6
  have hg8 : (0 : Int) < (L.length : Int) := by omega
  obtain ⟨A, cap, rfl, hcap, hby, hat⟩ := id hv
  obtain ⟨A1, n1, k1, rfl⟩ := h1.form
  obtain ⟨A2, n2, k2, rfl⟩ := h2.form
  obtain ⟨g, o, rfl, hat2⟩ := hat hL0
  obtain ⟨u0, hu0, hb0⟩ := hat2 0 hL0
  obtain ⟨A3, n3, k3, rfl⟩ := hb0.form
  have hcell : w.cell? ⟨g, o, none⟩ = some (.slice A3 n3 k3) := by simpa using hu0
  have hb0' : BytesR w (.slice A3 n3 k3) (L.getD 0 []) := by rw [List.getD_eq_getElem?_getD, List.getElem?_eq_getElem hL0]; exact hb0
  clear hb0
  have hb0 := hb0'
  clear hb0'
  have HTT := Lib.hid hT
  have HPW : ((m : Int) == (2 : Int) ^ c) = false := beq_eq_false_iff_ne.2 (fun e => hpw (by rw [e]; simp))
  clear hpw
  have HK := Lib.hid ok
  clear hat hat2 hu0 hby

  have HF := Lib.hid (fun (W : World) (hb : Below w.heap.size w W) => ans_below hF hb)
  have hne : ¬ (L.length : Int) = ((d + b + 1 : Nat) : Int) := by omega
  generalize d + b + 1 = want at *
  clear hF hT ok hv h1 h2 hb0 hc1 hin hbd hm hm1 hs hq hq0 hL0 hLn hl hll hk64 hmask hd hcap
  generalize L.length = n at *
  generalize m - 1 = m1 at *
  unfold hasherV
  go_enter Tryf.func32, Tryf.ntmps32
  go_wp2_with fail
  refine (HD.out _).mono ?_; rintro e w' ⟨rfl, rfl⟩
  go_wp2_with fail
  refine (HZ.out _ HTT.out).mono ?_; rintro e w' ⟨rfl, rfl⟩
  go_wp2_with fail
  have B1 := (Below.refl w.heap.size w).alloc (Nat.le_refl _) (.cells #[.iface 3 (.int .i64 (n : Int)), .iface 3 (.int .i64 (want : Int))] 20)
  refine (errorf_ii F _ fmtWrongC (n : Int) (want : Int) w.heap.size _ (HF.out _ B1) (by simp) (by simp)).mono ?_
  rintro r w1 ⟨⟨ge, rfl⟩, hb⟩
  have B2 := B1.trans (hb.mono B1.size)
  clear hb B1
  go_wp2_with fail
  go_ret
  exact ⟨⟨ge, rfl⟩, B2⟩
/-- What proof.VerifyConsistency gives, by what the reference tells. -/
theorem vc_any_cases (ok : h.ok) (m s : Nat) (hT : Tab w) (hF : F.answers w.tape) (hv : HashesR w v L) (h1 : BytesR w v1 r1) (h2 : BytesR w v2 r2) (hm1 : 1 ≤ m) (hm : m ≤ s) (hs : s < 18446744073709551616) (hLn : L.length ≤ 2147483647) :
    ((Pl.rootsOf h r1 L.length m s L true).2.2 = true ∧ (Pl.rootsOf h r1 L.length m s L true).1 = r1 ∧ (Pl.rootsOf h r1 L.length m s L true).2.1 = r2 ∧ Calls Tryf.prog 32 #[hasherV h, .int .u64 (m : Int), .int .u64 (s : Int), v, v1, v2] w (RetNone w)) ∨
    ((Pl.rootsOf h r1 L.length m s L true).2.2 = true ∧ ¬ ((Pl.rootsOf h r1 L.length m s L true).1 = r1 ∧ (Pl.rootsOf h r1 L.length m s L true).2.1 = r2) ∧ Calls Tryf.prog 32 #[hasherV h, .int .u64 (m : Int), .int .u64 (s : Int), v, v1, v2] w (RetMis w)) ∨
    ((Pl.rootsOf h r1 L.length m s L true).2.2 = false ∧ Calls Tryf.prog 32 #[hasherV h, .int .u64 (m : Int), .int .u64 (s : Int), v, v1, v2] w (RetErr w)) := by
  obtain ⟨t1, t2⟩ := Pl.rootsOf_spec h r1 L.length m s L true rfl hm1 hm
  rcases Nat.lt_or_ge m s with hlt | hge
  · obtain ⟨q, hq, _⟩ := ctz_odd m (by omega) (by omega)
    obtain ⟨_, _, hwz⟩ := Pl.cd_dirs _ s m q hm1 hlt hq
    have hcp := Pl.cd_pos hm1 hlt
    rcases Nat.eq_zero_or_pos L.length with h0 | h0
    · refine .inr (.inr ⟨?_, vc_empty h v v1 v2 L r1 r2 w m s hv h1 h2 hm1 hlt h0⟩)
      by_cases hq0 : q = 0
      · rw [(t1 ⟨rfl, by rw [hwz]; exact decide_eq_true hq0⟩).1]
        exact decide_eq_false (by omega)
      · rw [(t2 (by rw [hwz]; simp [hq0])).1]
        exact decide_eq_false (by omega)
    · by_cases hq0 : q = 0
      · obtain ⟨a, b⟩ := t1 ⟨rfl, by rw [hwz]; exact decide_eq_true hq0⟩
        by_cases hl : L.length = (Pl.cd m s).length
        · obtain ⟨b1, b2⟩ := b hl
          rw [a, b1, b2]
          by_cases y1 : Pl.chainR h r1 ((Pl.cd m s).zip L) = r1
          · by_cases y2 : Pl.chain h r1 ((Pl.cd m s).zip L) = r2
            · exact .inl ⟨decide_eq_true hl, y1, y2, vc_none0 h v v1 v2 L r1 r2 w ok m s q hT hv h1 h2 hm1 hlt hs hq hq0 h0 hLn (by omega) y1 y2⟩
            · exact .inr (.inl ⟨decide_eq_true hl, fun hx => y2 hx.2, vc_mis20 h v v1 v2 L r1 r2 w ok m s q hT hv h1 h2 hm1 hlt hs hq hq0 h0 hLn (by omega) y1 y2⟩)
          · exact .inr (.inl ⟨decide_eq_true hl, fun hx => y1 hx.1, vc_mis10 h v v1 v2 L r1 r2 w ok m s q hT hv h1 h2 hm1 hlt hs hq hq0 h0 hLn (by omega) y1⟩)
        · exact .inr (.inr ⟨by rw [a]; exact decide_eq_false hl, vc_len0 F h v v1 v2 L r1 r2 w hF ok m s q hT hv h1 h2 hm1 hlt hs hq hq0 h0 hLn (by omega)⟩)
      · obtain ⟨a, b⟩ := t2 (by rw [hwz]; simp [hq0])
        by_cases hl : L.length = (Pl.cd m s).length + 1
        · obtain ⟨b1, b2⟩ := b hl
          rw [a, b1, b2]
          by_cases y1 : Pl.chainR h (L.getD 0 []) ((Pl.cd m s).zip L.tail) = r1
          · by_cases y2 : Pl.chain h (L.getD 0 []) ((Pl.cd m s).zip L.tail) = r2
            · exact .inl ⟨decide_eq_true hl, y1, y2, vc_none1 h v v1 v2 L r1 r2 w ok m s q hT hv h1 h2 hm1 hlt hs hq hq0 h0 hLn hl y1 y2⟩
            · exact .inr (.inl ⟨decide_eq_true hl, fun hx => y2 hx.2, vc_mis21 h v v1 v2 L r1 r2 w ok m s q hT hv h1 h2 hm1 hlt hs hq hq0 h0 hLn hl y1 y2⟩)
          · exact .inr (.inl ⟨decide_eq_true hl, fun hx => y1 hx.1, vc_mis11 h v v1 v2 L r1 r2 w ok m s q hT hv h1 h2 hm1 hlt hs hq hq0 h0 hLn hl y1⟩)
        · exact .inr (.inr ⟨by rw [a]; exact decide_eq_false hl, vc_len1 F h v v1 v2 L r1 r2 w hF ok m s q hT hv h1 h2 hm1 hlt hs hq hq0 h0 hLn hl⟩)
  · obtain rfl : m = s := by omega
    obtain ⟨a, b⟩ := t1 ⟨rfl, Pl.wz_same m⟩
    rw [Pl.cd_same] at a b
    by_cases hl : L.length = 0
    · obtain ⟨b1, b2⟩ := b hl
      rw [a, b1, b2]
      by_cases y : r1 = r2
      · subst y
        exact .inl ⟨decide_eq_true hl, rfl, rfl, vc_same_yes h v v1 v2 L r1 w m hv h1 h2 hl⟩
      · exact .inr (.inl ⟨decide_eq_true hl, fun hx => y hx.2, vc_same_no h v v1 v2 L r1 r2 w m hv h1 h2 hl y⟩)
    · exact .inr (.inr ⟨by rw [a]; exact decide_eq_false hl, vc_same_more h v v1 v2 L r1 r2 w m hv h1 h2 hl⟩)
end
set_option maxHeartbeats 1000000 in
theorem verC_none (h : Pl.HF) (m s : Nat) (v v1 v2 : Value) (r1 r2 : List Nat) (L : List (List Nat)) (w : World) (h1 : BytesR w v1 r1) (hv : HashesR w v L) (h2 : BytesR w v2 r2) (hf : Fits L) (hH : Handle w)
    (HVC : ∀ (W : World) (u : Value), Below w.heap.size w W → HashesR W u L → BytesR W v1 r1 → BytesR W v2 r2 → Calls Tryf.prog 32 #[hasherV h, .int .u64 (m : Int), .int .u64 (s : Int), u, v1, v2] W (RetNone W)) :
    Calls Tryf.prog 18 #[hashV h, .int .u64 (m : Int), .int .u64 (s : Int), v, v1, v2] w fun e w' => e = .returned (.int .i64 0) ∧ Below w.heap.size w w' := by
  have HC := Lib.hid (fun (W : World) (g0 : Nat) (x1 x2 x3 : Value) (h : SV w g0 x1 x2 x3 v1 v v2 r1 r2 L W) => copied_h v L W h.2.2.2.2.2.1 hf)
  have HV := Lib.hid (fun (W : World) (u : Value) (x1 x2 x3 : Value) (h1 : SV w w.heap.size x1 x2 x3 v1 v v2 r1 r2 L W) h2 => HVC W u h1.2.2.2.2.2.2.2 h2 h1.2.2.2.1 h1.2.2.2.2.1)
  have HX : Hid True := Lib.hid True.intro
  have HL := Lib.hid h1
  have HR := Lib.hid h2
  have HP := Lib.hid hv
  have HH := Lib.hid hH
  clear h1 h2 hv hH hf HVC
  unfold hasherV at HV
  obtain ⟨A, B, C⟩ := h
  unfold hashV at HV ⊢
  simp only [] at HV ⊢
  go_enter Tryf.func18, Tryf.ntmps18
  go_wp2_with fail
  have B0 : Below w.heap.size w (w.alloc (.cells #[.int .u32 (A : Int), .int .u32 (B : Int), .int .u32 (C : Int)] 24)).drew := ((Below.refl _ _).alloc (Nat.le_refl _) _).drew
  have S0 : SV w w.heap.size (.int .u32 (A : Int)) (.int .u32 (B : Int)) (.int .u32 (C : Int)) v1 v v2 r1 r2 L (w.alloc (.cells #[.int .u32 (A : Int), .int .u32 (B : Int), .int .u32 (C : Int)] 24)).drew := ⟨by simp, by simp, by simp, HL.out.below B0, HR.out.below B0, HP.out.below B0, HH.out.below B0, B0⟩
  generalize hg0 : w.heap.size = g0 at *
  have HG : Hid (w.heap.size = g0) := hg0
  clear hg0 HL HR HP HH
  go_region_held3 (fun w' => w'.cell? ⟨g0, 0, none⟩ = some (.int .u32 (A : Int)) ∧ w'.cell? ⟨g0, 1, none⟩ = some (.int .u32 (B : Int)) ∧ w'.cell? ⟨g0, 2, none⟩ = some (.int .u32 (C : Int)) ∧ BytesR w' v1 r1 ∧ BytesR w' v2 r2 ∧ HashesR w' v L ∧ Handle w' ∧ Below g0 w w')
    (first | assumption | exact S0 | exact keepV hb (by assumption))
    (first | (go_at_call 20; refine (HC.out _ g0 (.int .u32 (A : Int)) (.int .u32 (B : Int)) (.int .u32 (C : Int)) (by assumption)).mono ?_; rintro e w' ⟨u, rfl, hu, hb⟩) | (go_at_call 32; refine (HV.out _ _ (.int .u32 (A : Int)) (.int .u32 (B : Int)) (.int .u32 (C : Int)) (by assumption) (by assumption)).mono ?_; rintro e w' ⟨rfl, hb⟩) | (go_at_call 23; refine (fault_nil _).mono ?_; rintro e w' ⟨rfl, hb⟩))
  all_goals
    obtain ⟨_, _, _, _, _, _, _, hB⟩ : w'.cell? ⟨g0, 0, none⟩ = some (.int .u32 (A : Int)) ∧ w'.cell? ⟨g0, 1, none⟩ = some (.int .u32 (B : Int)) ∧ w'.cell? ⟨g0, 2, none⟩ = some (.int .u32 (C : Int)) ∧ BytesR w' v1 r1 ∧ BytesR w' v2 r2 ∧ HashesR w' v L ∧ Handle w' ∧ Below g0 w w' := by assumption
    clear B0 S0 hb hu HC HV HX
    go_wp2
    go_ret
    exact ⟨rfl, HG.out ▸ hB⟩
set_option maxHeartbeats 1000000 in
theorem verC_mis (h : Pl.HF) (m s : Nat) (v v1 v2 : Value) (r1 r2 : List Nat) (L : List (List Nat)) (w : World) (h1 : BytesR w v1 r1) (hv : HashesR w v L) (h2 : BytesR w v2 r2) (hf : Fits L) (hH : Handle w)
    (HVC : ∀ (W : World) (u : Value), Below w.heap.size w W → HashesR W u L → BytesR W v1 r1 → BytesR W v2 r2 → Calls Tryf.prog 32 #[hasherV h, .int .u64 (m : Int), .int .u64 (s : Int), u, v1, v2] W (RetMis W)) :
    Calls Tryf.prog 18 #[hashV h, .int .u64 (m : Int), .int .u64 (s : Int), v, v1, v2] w fun e w' => e = .returned (.int .i64 1) ∧ Below w.heap.size w w' := by
  have HC := Lib.hid (fun (W : World) (g0 : Nat) (x1 x2 x3 : Value) (h : SV w g0 x1 x2 x3 v1 v v2 r1 r2 L W) => copied_h v L W h.2.2.2.2.2.1 hf)
  have HV := Lib.hid (fun (W : World) (u : Value) (x1 x2 x3 : Value) (h1 : SV w w.heap.size x1 x2 x3 v1 v v2 r1 r2 L W) h2 => HVC W u h1.2.2.2.2.2.2.2 h2 h1.2.2.2.1 h1.2.2.2.2.1)
  have HX := Lib.hid (fun (W : World) (n1 n2 c1 c2 : Nat) (A1 A2 : Option Addr) (g0 : Nat) (x1 x2 x3 : Value) (h1 : SV w g0 x1 x2 x3 v1 v v2 r1 r2 L W) => fault_mis n1 n2 c1 c2 A1 A2 W h1.2.2.2.2.2.2.1)
  have HL := Lib.hid h1
  have HR := Lib.hid h2
  have HP := Lib.hid hv
  have HH := Lib.hid hH
  clear h1 h2 hv hH hf HVC
  unfold hasherV at HV
  obtain ⟨A, B, C⟩ := h
  unfold hashV at HV ⊢
  simp only [] at HV ⊢
  go_enter Tryf.func18, Tryf.ntmps18
  go_wp2_with fail
  have B0 : Below w.heap.size w (w.alloc (.cells #[.int .u32 (A : Int), .int .u32 (B : Int), .int .u32 (C : Int)] 24)).drew := ((Below.refl _ _).alloc (Nat.le_refl _) _).drew
  have S0 : SV w w.heap.size (.int .u32 (A : Int)) (.int .u32 (B : Int)) (.int .u32 (C : Int)) v1 v v2 r1 r2 L (w.alloc (.cells #[.int .u32 (A : Int), .int .u32 (B : Int), .int .u32 (C : Int)] 24)).drew := ⟨by simp, by simp, by simp, HL.out.below B0, HR.out.below B0, HP.out.below B0, HH.out.below B0, B0⟩
  generalize hg0 : w.heap.size = g0 at *
  have HG : Hid (w.heap.size = g0) := hg0
  clear hg0 HL HR HP HH
  go_region_held3 (fun w' => w'.cell? ⟨g0, 0, none⟩ = some (.int .u32 (A : Int)) ∧ w'.cell? ⟨g0, 1, none⟩ = some (.int .u32 (B : Int)) ∧ w'.cell? ⟨g0, 2, none⟩ = some (.int .u32 (C : Int)) ∧ BytesR w' v1 r1 ∧ BytesR w' v2 r2 ∧ HashesR w' v L ∧ Handle w' ∧ Below g0 w w')
    (first | assumption | exact S0 | exact keepV hb (by assumption))
    (first | (go_at_call 20; refine (HC.out _ g0 (.int .u32 (A : Int)) (.int .u32 (B : Int)) (.int .u32 (C : Int)) (by assumption)).mono ?_; rintro e w' ⟨u, rfl, hu, hb⟩) | (go_at_call 32; refine (HV.out _ _ (.int .u32 (A : Int)) (.int .u32 (B : Int)) (.int .u32 (C : Int)) (by assumption) (by assumption)).mono ?_; rintro e w' ⟨⟨A1, n1, c1, A2, n2, c2, rfl⟩, hb⟩) | (go_at_call 23; refine (HX.out _ _ _ _ _ _ _ g0 (.int .u32 (A : Int)) (.int .u32 (B : Int)) (.int .u32 (C : Int)) (by assumption)).mono ?_; rintro e w' ⟨rfl, hb⟩))
  all_goals
    obtain ⟨_, _, _, _, _, _, _, hB⟩ : w'.cell? ⟨g0, 0, none⟩ = some (.int .u32 (A : Int)) ∧ w'.cell? ⟨g0, 1, none⟩ = some (.int .u32 (B : Int)) ∧ w'.cell? ⟨g0, 2, none⟩ = some (.int .u32 (C : Int)) ∧ BytesR w' v1 r1 ∧ BytesR w' v2 r2 ∧ HashesR w' v L ∧ Handle w' ∧ Below g0 w w' := by assumption
    clear B0 S0 hb hu HC HV HX
    go_wp2
    go_ret
    exact ⟨rfl, HG.out ▸ hB⟩
set_option maxHeartbeats 1000000 in
theorem verC_err (h : Pl.HF) (m s : Nat) (v v1 v2 : Value) (r1 r2 : List Nat) (L : List (List Nat)) (w : World) (h1 : BytesR w v1 r1) (hv : HashesR w v L) (h2 : BytesR w v2 r2) (hf : Fits L) (hH : Handle w)
    (HVC : ∀ (W : World) (u : Value), Below w.heap.size w W → HashesR W u L → BytesR W v1 r1 → BytesR W v2 r2 → Calls Tryf.prog 32 #[hasherV h, .int .u64 (m : Int), .int .u64 (s : Int), u, v1, v2] W (RetErr W)) :
    Calls Tryf.prog 18 #[hashV h, .int .u64 (m : Int), .int .u64 (s : Int), v, v1, v2] w fun e w' => e = .returned (.int .i64 2) ∧ Below w.heap.size w w' := by
  have HC := Lib.hid (fun (W : World) (g0 : Nat) (x1 x2 x3 : Value) (h : SV w g0 x1 x2 x3 v1 v v2 r1 r2 L W) => copied_h v L W h.2.2.2.2.2.1 hf)
  have HV := Lib.hid (fun (W : World) (u : Value) (x1 x2 x3 : Value) (h1 : SV w w.heap.size x1 x2 x3 v1 v v2 r1 r2 L W) h2 => HVC W u h1.2.2.2.2.2.2.2 h2 h1.2.2.2.1 h1.2.2.2.2.1)
  have HX := Lib.hid (fun (W : World) (a : Addr) (g0 : Nat) (x1 x2 x3 : Value) (h1 : SV w g0 x1 x2 x3 v1 v v2 r1 r2 L W) => fault_other a W h1.2.2.2.2.2.2.1)
  have HL := Lib.hid h1
  have HR := Lib.hid h2
  have HP := Lib.hid hv
  have HH := Lib.hid hH
  clear h1 h2 hv hH hf HVC
  unfold hasherV at HV
  obtain ⟨A, B, C⟩ := h
  unfold hashV at HV ⊢
  simp only [] at HV ⊢
  go_enter Tryf.func18, Tryf.ntmps18
  go_wp2_with fail
  have B0 : Below w.heap.size w (w.alloc (.cells #[.int .u32 (A : Int), .int .u32 (B : Int), .int .u32 (C : Int)] 24)).drew := ((Below.refl _ _).alloc (Nat.le_refl _) _).drew
  have S0 : SV w w.heap.size (.int .u32 (A : Int)) (.int .u32 (B : Int)) (.int .u32 (C : Int)) v1 v v2 r1 r2 L (w.alloc (.cells #[.int .u32 (A : Int), .int .u32 (B : Int), .int .u32 (C : Int)] 24)).drew := ⟨by simp, by simp, by simp, HL.out.below B0, HR.out.below B0, HP.out.below B0, HH.out.below B0, B0⟩
  generalize hg0 : w.heap.size = g0 at *
  have HG : Hid (w.heap.size = g0) := hg0
  clear hg0 HL HR HP HH
  go_region_held3 (fun w' => w'.cell? ⟨g0, 0, none⟩ = some (.int .u32 (A : Int)) ∧ w'.cell? ⟨g0, 1, none⟩ = some (.int .u32 (B : Int)) ∧ w'.cell? ⟨g0, 2, none⟩ = some (.int .u32 (C : Int)) ∧ BytesR w' v1 r1 ∧ BytesR w' v2 r2 ∧ HashesR w' v L ∧ Handle w' ∧ Below g0 w w')
    (first | assumption | exact S0 | exact keepV hb (by assumption))
    (first | (go_at_call 20; refine (HC.out _ g0 (.int .u32 (A : Int)) (.int .u32 (B : Int)) (.int .u32 (C : Int)) (by assumption)).mono ?_; rintro e w' ⟨u, rfl, hu, hb⟩) | (go_at_call 32; refine (HV.out _ _ (.int .u32 (A : Int)) (.int .u32 (B : Int)) (.int .u32 (C : Int)) (by assumption) (by assumption)).mono ?_; rintro e w' ⟨⟨ge, rfl⟩, hb⟩) | (go_at_call 23; refine (HX.out _ _ g0 (.int .u32 (A : Int)) (.int .u32 (B : Int)) (.int .u32 (C : Int)) (by assumption)).mono ?_; rintro e w' ⟨rfl, hb⟩))
  all_goals
    obtain ⟨_, _, _, _, _, _, _, hB⟩ : w'.cell? ⟨g0, 0, none⟩ = some (.int .u32 (A : Int)) ∧ w'.cell? ⟨g0, 1, none⟩ = some (.int .u32 (B : Int)) ∧ w'.cell? ⟨g0, 2, none⟩ = some (.int .u32 (C : Int)) ∧ BytesR w' v1 r1 ∧ BytesR w' v2 r2 ∧ HashesR w' v L ∧ Handle w' ∧ Below g0 w w' := by assumption
    clear B0 S0 hb hu HC HV HX
    go_wp2
    go_ret
    exact ⟨rfl, HG.out ▸ hB⟩
/-- What impl.VerifyConsistency answers. -/
def kV (h : Pl.HF) (r1 r2 : List Nat) (m s : Nat) (L : List (List Nat)) : Nat := if (Pl.rootsOf h r1 L.length m s L true).2.2 = true then (if (Pl.rootsOf h r1 L.length m s L true).1 = r1 ∧ (Pl.rootsOf h r1 L.length m s L true).2.1 = r2 then 0 else 1) else 2
theorem verC_any (F : Stop.Interp) (h : Pl.HF) (ok : h.ok) (m s : Nat) (v v1 v2 : Value) (r1 r2 : List Nat) (L : List (List Nat)) (w : World) (hF : F.answers w.tape) (hT : Tab w) (h1 : BytesR w v1 r1) (hv : HashesR w v L) (h2 : BytesR w v2 r2) (hf : Fits L) (hH : Handle w) (hm1 : 1 ≤ m) (hm : m ≤ s) (hs : s < 18446744073709551616) :
    Calls Tryf.prog 18 #[hashV h, .int .u64 (m : Int), .int .u64 (s : Int), v, v1, v2] w fun e w' => e = .returned (.int .i64 ((kV h r1 r2 m s L : Nat) : Int)) ∧ Below w.heap.size w w' := by
  have key := fun (W : World) (u : Value) (hb : Below w.heap.size w W) (hu : HashesR W u L) (a : BytesR W v1 r1) (b : BytesR W v2 r2) => vc_any_cases F h u v1 v2 L r1 r2 W ok m s (hT.below hb) (ans_below hF hb) hu a b hm1 hm hs hf.1
  unfold kV
  by_cases k1 : (Pl.rootsOf h r1 L.length m s L true).2.2 = true
  · rw [if_pos k1]
    by_cases k2 : (Pl.rootsOf h r1 L.length m s L true).1 = r1 ∧ (Pl.rootsOf h r1 L.length m s L true).2.1 = r2
    · rw [if_pos k2]
      refine verC_none h m s v v1 v2 r1 r2 L w h1 hv h2 hf hH (fun W u hb hu a b => ?_)
      rcases key W u hb hu a b with x | x | x
      · exact x.2.2.2
      · exact absurd k2 x.2.1
      · rw [k1] at x; simp at x
    · rw [if_neg k2]
      refine verC_mis h m s v v1 v2 r1 r2 L w h1 hv h2 hf hH (fun W u hb hu a b => ?_)
      rcases key W u hb hu a b with x | x | x
      · exact absurd ⟨x.2.1, x.2.2.1⟩ k2
      · exact x.2.2
      · rw [k1] at x; simp at x
  · rw [if_neg k1]
    refine verC_err h m s v v1 v2 r1 r2 L w h1 hv h2 hf hH (fun W u hb hu a b => ?_)
    rcases key W u hb hu a b with x | x | x
    · exact absurd x.1 k1
    · exact absurd x.1 k1
    · exact x.2
theorem kV_zero {h : Pl.HF} {r1 r2 : List Nat} {m s : Nat} {L : List (List Nat)} : kV h r1 r2 m s L = 0 ↔ (Pl.rootsOf h r1 L.length m s L true).2.2 = true ∧ (Pl.rootsOf h r1 L.length m s L true).1 = r1 ∧ (Pl.rootsOf h r1 L.length m s L true).2.1 = r2 := by
  unfold kV
  constructor
  · intro e
    by_cases k1 : (Pl.rootsOf h r1 L.length m s L true).2.2 = true
    · rw [if_pos k1] at e
      by_cases k2 : (Pl.rootsOf h r1 L.length m s L true).1 = r1 ∧ (Pl.rootsOf h r1 L.length m s L true).2.1 = r2
      · exact ⟨k1, k2⟩
      · rw [if_neg k2] at e; omega
    · rw [if_neg k1] at e; omega
  · intro e
    rw [if_pos e.1, if_pos e.2]
theorem verC_order (F : Stop.Interp) (h : Pl.HF) (m s : Nat) (v v1 v2 : Value) (r1 r2 : List Nat) (L : List (List Nat)) (w : World) (hF : F.answers w.tape) (h1 : BytesR w v1 r1) (hv : HashesR w v L) (h2 : BytesR w v2 r2) (hf : Fits L) (hH : Handle w) (hm : s < m) :
    Calls Tryf.prog 18 #[hashV h, .int .u64 (m : Int), .int .u64 (s : Int), v, v1, v2] w fun e w' => e = .returned (.int .i64 2) ∧ Below w.heap.size w w' :=
  verC_err h m s v v1 v2 r1 r2 L w h1 hv h2 hf hH (fun W u hb hu a b => vc_order F h u v1 v2 L r1 r2 W m s (ans_below hF hb) hu a b hm)
end Go.Proofs.YtobnmgnnidhfkaaFmt
