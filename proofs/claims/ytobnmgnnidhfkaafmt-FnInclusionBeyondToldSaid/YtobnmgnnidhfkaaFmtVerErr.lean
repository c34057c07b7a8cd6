/- proof.RootFromInclusionProof, proof.VerifyInclusion and the thin functions where they answer an error; impl.RootFromInclusionProof. -/
import Derived.Test.YtobnmgnnidhfkaaFmtErr
import Derived.Test.YtobnmgnnidhfkaaFmtImplVer
namespace Go.Proofs.YtobnmgnnidhfkaaFmt
open Go.ChangeShapes Go.WideShapes Go.ChangeAt Go.RowKit
set_option maxRecDepth 20000
theorem fmtBeyond : Fmt2 ⟨#[105, 110, 100, 101, 120, 32, 105, 115, 32, 98, 101, 121, 111, 110, 100, 32, 115, 105, 122, 101, 58, 32, 37, 100, 32, 62, 61, 32, 37, 100]⟩ := ⟨by kernel_rfl, fun w => by kernel_rfl⟩
theorem fmtLeaf : Fmt2 ⟨#[108, 101, 97, 102, 72, 97, 115, 104, 32, 104, 97, 115, 32, 117, 110, 101, 120, 112, 101, 99, 116, 101, 100, 32, 115, 105, 122, 101, 32, 37, 100, 44, 32, 119, 97, 110, 116, 32, 37, 100]⟩ := ⟨by kernel_rfl, fun w => by kernel_rfl⟩
theorem fmtWrong : Fmt2 ⟨#[119, 114, 111, 110, 103, 32, 112, 114, 111, 111, 102, 32, 115, 105, 122, 101, 32, 37, 100, 44, 32, 119, 97, 110, 116, 32, 37, 100]⟩ := ⟨by kernel_rfl, fun w => by kernel_rfl⟩
/-- No bytes, and a new error. -/
def RetErrT (w : World) (e : Ending) (w' : World) : Prop := (∃ g, e = .returned (.tuple #[.slice none 0 0, .iface 137 (.pointer (some ⟨g, 0, none⟩))])) ∧ Below w.heap.size w w'
/-- What makes an inclusion proof's root an error. -/
def BadIncl (i s : Nat) (ll : List Nat) (L : List (List Nat)) : Prop := s ≤ i ∨ ¬ ll.length = 2 ∨ ¬ L.length = (Pl.dirs i s).length
theorem root_err (F : Stop.Interp) (h : Pl.HF) (i s : Nat) (_hi : i < 18446744073709551616) (hs : s < 18446744073709551616) (lv v : Value) (ll : List Nat) (L : List (List Nat)) (w : World) (hF : F.answers w.tape) (hlv : BytesR w lv ll) (hv : HashesR w v L) (hbad : BadIncl i s ll L) :
    Calls Tryf.prog 19 #[hasherV h, .int .u64 (i : Int), .int .u64 (s : Int), lv, v] w (RetErrT w) := by
  have HF := Lib.hid (fun (W : World) (hb : Below w.heap.size w W) => ans_below hF hb)
  obtain ⟨A, cap, rfl, hc8⟩ := id hv
  obtain ⟨Al, cl, rfl, hc9⟩ := id hlv
  clear hF hv hlv hc8 hc9
  by_cases hg : s ≤ i
  · have hg1 : (s : Int) ≤ (i : Int) := by omega
    clear hbad _hi hs hg
    go_enter Tryf.func19, Tryf.ntmps19
    go_wp2_with fail
    have B1 := ((Below.refl w.heap.size w).alloc (Nat.le_refl _) (.cells #[.iface 25 (.int .u64 (i : Int)), .iface 25 (.int .u64 (s : Int))] 20))
    refine (errorf_uu F _ fmtBeyond (i : Int) (s : Int) w.heap.size _ (HF.out _ B1) (by simp) (by simp)).mono ?_
    rintro r w1 ⟨⟨g, rfl⟩, hb⟩
    have B2 := B1.trans (hb.mono B1.size)
    clear hb B1
    go_wp2_with fail
    go_ret2
    exact ⟨⟨g, rfl⟩, B2⟩
  have hg1 : ¬ (s : Int) ≤ (i : Int) := by omega
  have hm := method_size h
  have HM := Lib.hid (fun W => hsize_c h W)
  by_cases hl : ll.length = 2
  case neg =>
    have hl1 : ¬ (ll.length : Int) = 2 := by omega
    generalize ll.length = n at *
    clear hbad _hi hs hg hl
    unfold hasherV
    go_enter Tryf.func19, Tryf.ntmps19
    go_wp2_with fail
    refine (HM.out _).mono ?_; rintro e w1 ⟨rfl, hb1⟩
    go_wp2_with fail
    have B1 := (hb1.alloc hb1.size (.cells #[.iface 3 (.int .i64 (n : Int)), .iface 3 (.int .i64 2)] 20))
    refine (errorf_ii F _ fmtLeaf (n : Int) 2 w1.heap.size _ (HF.out _ B1) (by simp) (by simp)).mono ?_
    rintro r w2 ⟨⟨g, rfl⟩, hb⟩
    have B2 := B1.trans (hb.mono B1.size)
    clear hb B1
    go_wp2_with fail
    go_ret2
    exact ⟨⟨g, rfl⟩, B2⟩
  have hL : ¬ L.length = Pl.inn i s + Pl.bord i s := by
    rw [← Pl.dirs_len i s (by omega) hs]
    rcases hbad with h | h | h
    · exact absurd h hg
    · exact absurd hl h
    · exact h
  have HD := Lib.hid (fun w => decomp_c i s (by omega) hs w)
  have hle := inn_le (show i < s by omega) hs
  have hb : Pl.bord i s ≤ 64 := Pl.pop_le 64 _
  rw [hl]
  have e1 : IntKind.i64.wrap (((Pl.inn i s : Nat) : Int) + ((Pl.bord i s : Nat) : Int)) = ((Pl.inn i s + Pl.bord i s : Nat) : Int) := by rw [IntWalk.i64_in _ (by omega)]; omega
  generalize Pl.bord i s = b at *
  generalize Pl.inn i s = d at *
  generalize L.length = n at *
  generalize d + b = db at *
  have hL1 : ¬ (n : Int) = (db : Int) := by omega
  clear hbad _hi hs hg hl hle hb hL
  unfold hasherV
  go_enter Tryf.func19, Tryf.ntmps19
  go_wp2_with fail
  refine (HM.out _).mono ?_; rintro e w1 ⟨rfl, hb1⟩
  go_wp2_with fail
  refine (HD.out _).mono ?_; rintro e w' ⟨rfl, rfl⟩
  go_wp2_with fail
  have B1 := (hb1.alloc hb1.size (.cells #[.iface 3 (.int .i64 (n : Int)), .iface 3 (.int .i64 (db : Int))] 20))
  refine (errorf_ii F _ fmtWrong (n : Int) (db : Int) w1.heap.size _ (HF.out _ B1) (by simp) (by simp)).mono ?_
  rintro r w2 ⟨⟨g, rfl⟩, hb⟩
  have B2 := B1.trans (hb.mono B1.size)
  clear hb B1
  go_wp2_with fail
  go_ret2
  exact ⟨⟨g, rfl⟩, B2⟩
theorem verify_err (F : Stop.Interp) (h : Pl.HF) (i s : Nat) (hi : i < 18446744073709551616) (hs : s < 18446744073709551616) (lv v rv : Value) (ll rl : List Nat) (L : List (List Nat)) (w : World) (hF : F.answers w.tape) (hlv : BytesR w lv ll) (hv : HashesR w v L) (hrv : BytesR w rv rl) (hbad : BadIncl i s ll L) :
    Calls Tryf.prog 24 #[hasherV h, .int .u64 (i : Int), .int .u64 (s : Int), lv, v, rv] w (RetErr w) := by
  have HR := Lib.hid (root_err F h i s hi hs lv v ll L w hF hlv hv hbad)
  obtain ⟨A1, n1, c1, rfl⟩ := hlv.form
  obtain ⟨A2, c2, rfl, _⟩ := id hv
  obtain ⟨A3, n3, c3, rfl⟩ := hrv.form
  clear hlv hv hrv hbad hF hi hs
  go_enter Tryf.func24, Tryf.ntmps24
  go_wp2_with fail
  refine HR.out.mono ?_
  rintro e w1 ⟨⟨g, rfl⟩, hb1⟩
  go_wp2_with fail
  go_ret
  exact ⟨⟨g, rfl⟩, hb1⟩
set_option maxHeartbeats 1000000 in
theorem verI_err (F : Stop.Interp) (h : Pl.HF) (i s : Nat) (hi : i < 18446744073709551616) (hs : s < 18446744073709551616) (lv v rv : Value) (ll rl : List Nat) (L : List (List Nat)) (w : World) (hF : F.answers w.tape) (hlv : BytesR w lv ll) (hv : HashesR w v L) (hrv : BytesR w rv rl) (hf : Fits L) (hH : Handle w) (hbad : BadIncl i s ll L) :
    Calls Tryf.prog 10 #[hashV h, .int .u64 (i : Int), .int .u64 (s : Int), lv, v, rv] w fun e w' => e = .returned (.int .i64 2) ∧ Below w.heap.size w w' := by
  have HC := Lib.hid (fun (W : World) (g0 : Nat) (x1 x2 x3 : Value) (h : SV w g0 x1 x2 x3 lv v rv ll rl L W) => copied_h v L W h.2.2.2.2.2.1 hf)
  have HV := Lib.hid (fun (W : World) (u : Value) (x1 x2 x3 : Value) (h1 : SV w w.heap.size x1 x2 x3 lv v rv ll rl L W) h2 => verify_err F h i s hi hs lv u rv ll rl L W (ans_below hF h1.2.2.2.2.2.2.2) h1.2.2.2.1 h2 h1.2.2.2.2.1 hbad)
  have HX := Lib.hid (fun (W : World) (a : Addr) (g0 : Nat) (x1 x2 x3 : Value) (h1 : SV w g0 x1 x2 x3 lv v rv ll rl L W) => fault_other a W h1.2.2.2.2.2.2.1)
  have HL := Lib.hid hlv
  have HR := Lib.hid hrv
  have HP := Lib.hid hv
  have HH := Lib.hid hH
  clear hlv hrv hv hH hi hs hf hbad hF
  unfold hasherV at HV
  obtain ⟨A, B, C⟩ := h
  unfold hashV at HV ⊢
  simp only [] at HV ⊢
  go_enter Tryf.func10, Tryf.ntmps10
  go_wp2_with fail
  have B0 : Below w.heap.size w (w.alloc (.cells #[.int .u32 (A : Int), .int .u32 (B : Int), .int .u32 (C : Int)] 24)).drew := ((Below.refl _ _).alloc (Nat.le_refl _) _).drew
  have S0 : SV w w.heap.size (.int .u32 (A : Int)) (.int .u32 (B : Int)) (.int .u32 (C : Int)) lv v rv ll rl L (w.alloc (.cells #[.int .u32 (A : Int), .int .u32 (B : Int), .int .u32 (C : Int)] 24)).drew := ⟨by simp, by simp, by simp, HL.out.below B0, HR.out.below B0, HP.out.below B0, HH.out.below B0, B0⟩
  generalize hg0 : w.heap.size = g0 at *
  have HG : Hid (w.heap.size = g0) := hg0
  clear hg0 HL HR HP HH
  go_region_held3 (fun w' => w'.cell? ⟨g0, 0, none⟩ = some (.int .u32 (A : Int)) ∧ w'.cell? ⟨g0, 1, none⟩ = some (.int .u32 (B : Int)) ∧ w'.cell? ⟨g0, 2, none⟩ = some (.int .u32 (C : Int)) ∧ BytesR w' lv ll ∧ BytesR w' rv rl ∧ HashesR w' v L ∧ Handle w' ∧ Below g0 w w')
    (first | assumption | exact S0 | exact keepV hb (by assumption))
    (first | (go_at_call 20; refine (HC.out _ g0 (.int .u32 (A : Int)) (.int .u32 (B : Int)) (.int .u32 (C : Int)) (by assumption)).mono ?_; rintro e w' ⟨u, rfl, hu, hb⟩) | (go_at_call 24; refine (HV.out _ _ (.int .u32 (A : Int)) (.int .u32 (B : Int)) (.int .u32 (C : Int)) (by assumption) (by assumption)).mono ?_; rintro e w' ⟨⟨ge, rfl⟩, hb⟩) | (go_at_call 23; refine (HX.out _ _ g0 (.int .u32 (A : Int)) (.int .u32 (B : Int)) (.int .u32 (C : Int)) (by assumption)).mono ?_; rintro e w' ⟨rfl, hb⟩))
  all_goals
    obtain ⟨_, _, _, _, _, _, _, hB⟩ : w'.cell? ⟨g0, 0, none⟩ = some (.int .u32 (A : Int)) ∧ w'.cell? ⟨g0, 1, none⟩ = some (.int .u32 (B : Int)) ∧ w'.cell? ⟨g0, 2, none⟩ = some (.int .u32 (C : Int)) ∧ BytesR w' lv ll ∧ BytesR w' rv rl ∧ HashesR w' v L ∧ Handle w' ∧ Below g0 w w' := by assumption
    clear B0 S0 hb hu HC HV HX
    go_wp2
    go_ret
    exact ⟨rfl, HG.out ▸ hB⟩
abbrev SW (w : World) (x1 x2 x3 lv v : Value) (ll : List Nat) (L : List (List Nat)) (w' : World) : Prop := w'.cell? ⟨w.heap.size, 0, none⟩ = some x1 ∧ w'.cell? ⟨w.heap.size, 1, none⟩ = some x2 ∧ w'.cell? ⟨w.heap.size, 2, none⟩ = some x3 ∧ BytesR w' lv ll ∧ HashesR w' v L ∧ Below w.heap.size w w'
theorem keepW {w W w' : World} {x1 x2 x3 lv v : Value} {ll : List Nat} {L : List (List Nat)} (hb : Below W.heap.size W w') (h : SW w x1 x2 x3 lv v ll L W) : SW w x1 x2 x3 lv v ll L w' :=
  have up : ∀ {p : Addr} {v : Value}, W.cell? p = some v → w'.cell? p = some v := fun {p} {_} h => (hb.cell (World.block_lt_of_cell? W p h)).trans h
  ⟨up h.1, up h.2.1, up h.2.2.1, h.2.2.2.1.below hb, h.2.2.2.2.1.below hb, h.2.2.2.2.2.trans (hb.mono h.2.2.2.2.2.size)⟩
/-- The thin function's answer: the root; no root. -/
def RetRootI (w : World) (l : List Nat) (e : Ending) (w' : World) : Prop := ∃ v, e = .returned (.tuple #[v, .bool true]) ∧ BytesR w' v l ∧ Below w.heap.size w w'
def RetRootN (w : World) (e : Ending) (w' : World) : Prop := ∃ v, e = .returned (.tuple #[v, .bool false]) ∧ BytesR w' v [] ∧ Below w.heap.size w w'
set_option maxHeartbeats 1000000 in
theorem rootI_ok (h : Pl.HF) (ok : h.ok) (i s : Nat) (hi : i < s) (hs : s < 18446744073709551616) (lv v : Value) (ll : List Nat) (L : List (List Nat)) (w : World) (hl2 : ll.length = 2) (hlv : BytesR w lv ll) (hv : HashesR w v L) (hL : L.length = (Pl.dirs i s).length) (hf : Fits L) :
    Calls Tryf.prog 8 #[hashV h, .int .u64 (i : Int), .int .u64 (s : Int), lv, v] w (RetRootI w (Pl.chain h ll ((Pl.dirs i s).zip L))) := by
  have HC := Lib.hid (fun (W : World) (x1 x2 x3 : Value) (h : SW w x1 x2 x3 lv v ll L W) => copied_h v L W h.2.2.2.2.1 hf)
  have HV := Lib.hid (fun (W : World) (u : Value) (x1 x2 x3 : Value) (h1 : SW w x1 x2 x3 lv v ll L W) h2 => root_ok h ok i s hi hs lv u ll L W hl2 h1.2.2.2.1 h2 hL)
  have HL := Lib.hid hlv
  have HP := Lib.hid hv
  generalize Pl.chain h ll ((Pl.dirs i s).zip L) = res at *
  clear hlv hv hi hs hf hL hl2 ok
  unfold hasherV at HV
  obtain ⟨A, B, C⟩ := h
  unfold hashV at HV ⊢
  simp only [] at HV ⊢
  go_enter Tryf.func8, Tryf.ntmps8
  go_wp2_with fail
  have B0 : Below w.heap.size w (w.alloc (.cells #[.int .u32 (A : Int), .int .u32 (B : Int), .int .u32 (C : Int)] 24)).drew := ((Below.refl _ _).alloc (Nat.le_refl _) _).drew
  have S0 : SW w (.int .u32 (A : Int)) (.int .u32 (B : Int)) (.int .u32 (C : Int)) lv v ll L (w.alloc (.cells #[.int .u32 (A : Int), .int .u32 (B : Int), .int .u32 (C : Int)] 24)).drew := ⟨by simp, by simp, by simp, HL.out.below B0, HP.out.below B0, B0⟩
  clear HL HP
  go_region_held3 (fun w' => w'.cell? ⟨w.heap.size, 0, none⟩ = some (.int .u32 (A : Int)) ∧ w'.cell? ⟨w.heap.size, 1, none⟩ = some (.int .u32 (B : Int)) ∧ w'.cell? ⟨w.heap.size, 2, none⟩ = some (.int .u32 (C : Int)) ∧ BytesR w' lv ll ∧ HashesR w' v L ∧ Below w.heap.size w w')
    (first | assumption | exact S0 | exact keepW hb (by assumption))
    (first | (go_at_call 20; refine (HC.out _ (.int .u32 (A : Int)) (.int .u32 (B : Int)) (.int .u32 (C : Int)) (by assumption)).mono ?_; rintro e w' ⟨u, rfl, hu, hb⟩) | (go_at_call 19; refine (HV.out _ _ (.int .u32 (A : Int)) (.int .u32 (B : Int)) (.int .u32 (C : Int)) (by assumption) (by assumption)).mono ?_; rintro e w' ⟨vr, rfl, hvr, hb⟩))
  all_goals
    obtain ⟨_, _, _, _, _, hB⟩ : w'.cell? ⟨w.heap.size, 0, none⟩ = some (.int .u32 (A : Int)) ∧ w'.cell? ⟨w.heap.size, 1, none⟩ = some (.int .u32 (B : Int)) ∧ w'.cell? ⟨w.heap.size, 2, none⟩ = some (.int .u32 (C : Int)) ∧ BytesR w' lv ll ∧ HashesR w' v L ∧ Below w.heap.size w w' := by assumption
    have HVR := Lib.hid hvr
    obtain ⟨Ar, nr, cr, rfl⟩ := hvr.form
    clear B0 S0 hb hu HC HV hvr
    go_wp2
    go_ret2
    exact ⟨_, rfl, HVR.out, hB⟩
set_option maxHeartbeats 1000000 in
theorem rootI_err (F : Stop.Interp) (h : Pl.HF) (i s : Nat) (hi : i < 18446744073709551616) (hs : s < 18446744073709551616) (lv v : Value) (ll : List Nat) (L : List (List Nat)) (w : World) (hF : F.answers w.tape) (hlv : BytesR w lv ll) (hv : HashesR w v L) (hf : Fits L) (hbad : BadIncl i s ll L) :
    Calls Tryf.prog 8 #[hashV h, .int .u64 (i : Int), .int .u64 (s : Int), lv, v] w (RetRootN w) := by
  have HC := Lib.hid (fun (W : World) (x1 x2 x3 : Value) (h : SW w x1 x2 x3 lv v ll L W) => copied_h v L W h.2.2.2.2.1 hf)
  have HV := Lib.hid (fun (W : World) (u : Value) (x1 x2 x3 : Value) (h1 : SW w x1 x2 x3 lv v ll L W) h2 => root_err F h i s hi hs lv u ll L W (ans_below hF h1.2.2.2.2.2) h1.2.2.2.1 h2 hbad)
  have HL := Lib.hid hlv
  have HP := Lib.hid hv
  clear hlv hv hi hs hf hbad hF
  unfold hasherV at HV
  obtain ⟨A, B, C⟩ := h
  unfold hashV at HV ⊢
  simp only [] at HV ⊢
  go_enter Tryf.func8, Tryf.ntmps8
  go_wp2_with fail
  have B0 : Below w.heap.size w (w.alloc (.cells #[.int .u32 (A : Int), .int .u32 (B : Int), .int .u32 (C : Int)] 24)).drew := ((Below.refl _ _).alloc (Nat.le_refl _) _).drew
  have S0 : SW w (.int .u32 (A : Int)) (.int .u32 (B : Int)) (.int .u32 (C : Int)) lv v ll L (w.alloc (.cells #[.int .u32 (A : Int), .int .u32 (B : Int), .int .u32 (C : Int)] 24)).drew := ⟨by simp, by simp, by simp, HL.out.below B0, HP.out.below B0, B0⟩
  clear HL HP
  go_region_held3 (fun w' => w'.cell? ⟨w.heap.size, 0, none⟩ = some (.int .u32 (A : Int)) ∧ w'.cell? ⟨w.heap.size, 1, none⟩ = some (.int .u32 (B : Int)) ∧ w'.cell? ⟨w.heap.size, 2, none⟩ = some (.int .u32 (C : Int)) ∧ BytesR w' lv ll ∧ HashesR w' v L ∧ Below w.heap.size w w')
    (first | assumption | exact S0 | exact keepW hb (by assumption))
    (first | (go_at_call 20; refine (HC.out _ (.int .u32 (A : Int)) (.int .u32 (B : Int)) (.int .u32 (C : Int)) (by assumption)).mono ?_; rintro e w' ⟨u, rfl, hu, hb⟩) | (go_at_call 19; refine (HV.out _ _ (.int .u32 (A : Int)) (.int .u32 (B : Int)) (.int .u32 (C : Int)) (by assumption) (by assumption)).mono ?_; rintro e w' ⟨⟨ge, rfl⟩, hb⟩))
  all_goals
    obtain ⟨_, _, _, _, _, hB⟩ : w'.cell? ⟨w.heap.size, 0, none⟩ = some (.int .u32 (A : Int)) ∧ w'.cell? ⟨w.heap.size, 1, none⟩ = some (.int .u32 (B : Int)) ∧ w'.cell? ⟨w.heap.size, 2, none⟩ = some (.int .u32 (C : Int)) ∧ BytesR w' lv ll ∧ HashesR w' v L ∧ Below w.heap.size w w' := by assumption
    clear B0 S0 hb hu HC HV
    go_wp2
    go_ret2
    exact ⟨_, rfl, ⟨_, 0, rfl, Nat.le_refl _, fun x hx => by simp at hx, fun h => by simp at h⟩, hB.alloc hB.size _⟩
end Go.Proofs.YtobnmgnnidhfkaaFmt
