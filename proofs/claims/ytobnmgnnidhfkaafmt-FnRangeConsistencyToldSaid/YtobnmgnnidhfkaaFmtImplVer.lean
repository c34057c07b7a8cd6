/- impl.VerifyInclusion; laws.proves. -/
import Derived.Test.YtobnmgnnidhfkaaFmtAppend
import Derived.Test.YtobnmgnnidhfkaaFmtRootP
import Derived.Test.YtobnmgnnidhfkaaFmtAs
namespace Go.Proofs.YtobnmgnnidhfkaaFmt
open Go.ChangeShapes Go.WideShapes Go.ChangeAt Go.RowKit
set_option maxRecDepth 20000
abbrev SV (w : World) (g0 : Nat) (x1 x2 x3 lv v rv : Value) (ll rl : List Nat) (L : List (List Nat)) (w' : World) : Prop := w'.cell? ⟨g0, 0, none⟩ = some x1 ∧ w'.cell? ⟨g0, 1, none⟩ = some x2 ∧ w'.cell? ⟨g0, 2, none⟩ = some x3 ∧ BytesR w' lv ll ∧ BytesR w' rv rl ∧ HashesR w' v L ∧ Handle w' ∧ Below g0 w w'
theorem keepV {w W w' : World} {g0 : Nat} {x1 x2 x3 lv v rv : Value} {ll rl : List Nat} {L : List (List Nat)} (hb : Below W.heap.size W w') (h : SV w g0 x1 x2 x3 lv v rv ll rl L W) : SV w g0 x1 x2 x3 lv v rv ll rl L w' :=
  have up : ∀ {p : Addr} {v : Value}, W.cell? p = some v → w'.cell? p = some v := fun {p} {_} h => (hb.cell (World.block_lt_of_cell? W p h)).trans h
  ⟨up h.1, up h.2.1, up h.2.2.1, h.2.2.2.1.below hb, h.2.2.2.2.1.below hb, h.2.2.2.2.2.1.below hb, h.2.2.2.2.2.2.1.below hb, h.2.2.2.2.2.2.2.trans (hb.mono (Nat.le_of_lt (World.block_lt_of_cell? W _ h.1)))⟩
theorem copied_h (v : Value) (L : List (List Nat)) (w : World) (hv : HashesR w v L) (hf : Fits L) : Calls Tryf.prog 20 #[v] w fun e w' => ∃ u, e = .returned u ∧ HashesR w' u L ∧ Below w.heap.size w w' :=
  (copied_c v L w hv hf).mono fun _ _ ⟨u, e, h, hb⟩ => ⟨u, e, h.hashes, hb⟩
theorem verify_yes (h : Pl.HF) (ok : h.ok) (i s : Nat) (hi : i < s) (hs : s < 18446744073709551616) (lv v rv : Value) (ll rl : List Nat) (L : List (List Nat)) (w : World) (hl2 : ll.length = 2) (hlv : BytesR w lv ll) (hv : HashesR w v L) (hrv : BytesR w rv rl) (hL : L.length = (Pl.dirs i s).length)
    (hy : Pl.chain h ll ((Pl.dirs i s).zip L) = rl) : Calls Tryf.prog 24 #[hasherV h, .int .u64 (i : Int), .int .u64 (s : Int), lv, v, rv] w fun e w' => e = .returned .nilIface ∧ Below w.heap.size w w' :=
  (verify_ok h ok i s hi hs lv v rv ll rl L w hl2 hlv hv hrv hL).mono fun _ _ ⟨h, hb⟩ => ⟨h.elim (fun h => h.2) (fun h => absurd hy h.1), hb⟩
theorem verify_no (h : Pl.HF) (ok : h.ok) (i s : Nat) (hi : i < s) (hs : s < 18446744073709551616) (lv v rv : Value) (ll rl : List Nat) (L : List (List Nat)) (w : World) (hl2 : ll.length = 2) (hlv : BytesR w lv ll) (hv : HashesR w v L) (hrv : BytesR w rv rl) (hL : L.length = (Pl.dirs i s).length)
    (hy : ¬ Pl.chain h ll ((Pl.dirs i s).zip L) = rl) : Calls Tryf.prog 24 #[hasherV h, .int .u64 (i : Int), .int .u64 (s : Int), lv, v, rv] w fun e w' => ∃ A1 n1 c1 A2 n2 c2, e = .returned (.iface 92 (.agg #[.slice A1 n1 c1, .slice A2 n2 c2])) ∧ Below w.heap.size w w' :=
  (verify_ok h ok i s hi hs lv v rv ll rl L w hl2 hlv hv hrv hL).mono fun _ _ ⟨h, hb⟩ => h.elim (fun h => absurd h.1 hy) (fun ⟨_, A1, n1, c1, A2, n2, c2, h⟩ => ⟨A1, n1, c1, A2, n2, c2, h, hb⟩)
set_option maxHeartbeats 1000000 in
theorem verI_yes (h : Pl.HF) (ok : h.ok) (i s : Nat) (hi : i < s) (hs : s < 18446744073709551616) (lv v rv : Value) (ll rl : List Nat) (L : List (List Nat)) (w : World) (hl2 : ll.length = 2) (hlv : BytesR w lv ll) (hv : HashesR w v L) (hrv : BytesR w rv rl) (hL : L.length = (Pl.dirs i s).length) (hf : Fits L) (hH : Handle w)
    (hy : Pl.chain h ll ((Pl.dirs i s).zip L) = rl) : Calls Tryf.prog 10 #[hashV h, .int .u64 (i : Int), .int .u64 (s : Int), lv, v, rv] w fun e w' => e = .returned (.int .i64 0) ∧ Below w.heap.size w w' := by
  have HC := Lib.hid (fun (W : World) (g0 : Nat) (x1 x2 x3 : Value) (h : SV w g0 x1 x2 x3 lv v rv ll rl L W) => copied_h v L W h.2.2.2.2.2.1 hf)
  have HV := Lib.hid (fun (W : World) (u : Value) (g0 : Nat) (x1 x2 x3 : Value) (h1 : SV w g0 x1 x2 x3 lv v rv ll rl L W) h2 => verify_yes h ok i s hi hs lv u rv ll rl L W hl2 h1.2.2.2.1 h2 h1.2.2.2.2.1 hL hy)
  have HL := Lib.hid hlv
  have HR := Lib.hid hrv
  have HP := Lib.hid hv
  have HH := Lib.hid hH
  clear hlv hrv hv hH hi hs hL hl2 hf hy ok
  unfold hasherV at HV
  obtain ⟨A, B, C⟩ := h
  unfold hashV at HV ⊢
  simp only [] at HV ⊢
  go_enter Tryf.func10, Tryf.ntmps10
  go_wp2_with fail
  have B0 : Below w.heap.size w (w.alloc (.cells #[.int .u32 (A : Int), .int .u32 (B : Int), .int .u32 (C : Int)] 24)).drew := ((Below.refl _ _).alloc (Nat.le_refl _) _).drew
  have S0 : SV w w.heap.size (.int .u32 (A : Int)) (.int .u32 (B : Int)) (.int .u32 (C : Int)) lv v rv ll rl L (w.alloc (.cells #[.int .u32 (A : Int), .int .u32 (B : Int), .int .u32 (C : Int)] 24)).drew := ⟨by simp, by simp, by simp, HL.out.below B0, HR.out.below B0, HP.out.below B0, HH.out.below B0, B0⟩
  generalize hg0 : w.heap.size = g0 at *
  have HG : Hid (w.heap.size = g0) := hg0
  clear hg0 HL HR HP HH
  go_region_held3 (fun w' => w'.cell? ⟨g0, 0, none⟩ = some (.int .u32 (A : Int)) ∧ w'.cell? ⟨g0, 1, none⟩ = some (.int .u32 (B : Int)) ∧ w'.cell? ⟨g0, 2, none⟩ = some (.int .u32 (C : Int)) ∧ BytesR w' lv ll ∧ BytesR w' rv rl ∧ HashesR w' v L ∧ Handle w' ∧ Below g0 w w')
    (first | assumption | exact S0 | exact keepV hb (by assumption))
    (first | (go_at_call 20; refine (HC.out _ g0 (.int .u32 (A : Int)) (.int .u32 (B : Int)) (.int .u32 (C : Int)) (by assumption)).mono ?_; rintro e w' ⟨u, rfl, hu, hb⟩) | (go_at_call 24; refine (HV.out _ _ g0 (.int .u32 (A : Int)) (.int .u32 (B : Int)) (.int .u32 (C : Int)) (by assumption) (by assumption)).mono ?_; rintro e w' ⟨rfl, hb⟩) | (go_at_call 23; refine (fault_nil _).mono ?_; rintro e w' ⟨rfl, hb⟩))
  all_goals
    obtain ⟨_, _, _, _, _, _, _, hB⟩ : w'.cell? ⟨g0, 0, none⟩ = some (.int .u32 (A : Int)) ∧ w'.cell? ⟨g0, 1, none⟩ = some (.int .u32 (B : Int)) ∧ w'.cell? ⟨g0, 2, none⟩ = some (.int .u32 (C : Int)) ∧ BytesR w' lv ll ∧ BytesR w' rv rl ∧ HashesR w' v L ∧ Handle w' ∧ Below g0 w w' := by assumption
    clear B0 S0 hb hu HC HV
    go_wp2
    go_ret
    exact ⟨rfl, HG.out ▸ hB⟩
set_option maxHeartbeats 1000000 in
theorem verI_no (h : Pl.HF) (ok : h.ok) (i s : Nat) (hi : i < s) (hs : s < 18446744073709551616) (lv v rv : Value) (ll rl : List Nat) (L : List (List Nat)) (w : World) (hl2 : ll.length = 2) (hlv : BytesR w lv ll) (hv : HashesR w v L) (hrv : BytesR w rv rl) (hL : L.length = (Pl.dirs i s).length) (hf : Fits L) (hH : Handle w)
    (hy : ¬ Pl.chain h ll ((Pl.dirs i s).zip L) = rl) : Calls Tryf.prog 10 #[hashV h, .int .u64 (i : Int), .int .u64 (s : Int), lv, v, rv] w fun e w' => e = .returned (.int .i64 1) ∧ Below w.heap.size w w' := by
  have HC := Lib.hid (fun (W : World) (g0 : Nat) (x1 x2 x3 : Value) (h : SV w g0 x1 x2 x3 lv v rv ll rl L W) => copied_h v L W h.2.2.2.2.2.1 hf)
  have HV := Lib.hid (fun (W : World) (u : Value) (g0 : Nat) (x1 x2 x3 : Value) (h1 : SV w g0 x1 x2 x3 lv v rv ll rl L W) h2 => verify_no h ok i s hi hs lv u rv ll rl L W hl2 h1.2.2.2.1 h2 h1.2.2.2.2.1 hL hy)
  have HF := Lib.hid (fun (W : World) (n1 n2 c1 c2 : Nat) (A1 A2 : Option Addr) (g0 : Nat) (x1 x2 x3 : Value) (h1 : SV w g0 x1 x2 x3 lv v rv ll rl L W) => fault_mis n1 n2 c1 c2 A1 A2 W h1.2.2.2.2.2.2.1)
  have HL := Lib.hid hlv
  have HR := Lib.hid hrv
  have HP := Lib.hid hv
  have HH := Lib.hid hH
  clear hlv hrv hv hH hi hs hL hl2 hf hy ok
  unfold hasherV at HV
  obtain ⟨A, B, C⟩ := h
  unfold hashV at HV ⊢
  simp only [] at HV ⊢
  go_enter Tryf.func10, Tryf.ntmps10
  go_wp2_with fail
  have B0 : Below w.heap.size w (w.alloc (.cells #[.int .u32 (A : Int), .int .u32 (B : Int), .int .u32 (C : Int)] 24)).drew := ((Below.refl _ _).alloc (Nat.le_refl _) _).drew
  have S0 : SV w w.heap.size (.int .u32 (A : Int)) (.int .u32 (B : Int)) (.int .u32 (C : Int)) lv v rv ll rl L (w.alloc (.cells #[.int .u32 (A : Int), .int .u32 (B : Int), .int .u32 (C : Int)] 24)).drew := ⟨by simp, by simp, by simp, HL.out.below B0, HR.out.below B0, HP.out.below B0, HH.out.below B0, B0⟩
  generalize hg0 : w.heap.size = g0 at *
  have HG : Hid (w.heap.size = g0) := hg0
  clear hg0 HL HR HP HH
  go_region_held3 (fun w' => w'.cell? ⟨g0, 0, none⟩ = some (.int .u32 (A : Int)) ∧ w'.cell? ⟨g0, 1, none⟩ = some (.int .u32 (B : Int)) ∧ w'.cell? ⟨g0, 2, none⟩ = some (.int .u32 (C : Int)) ∧ BytesR w' lv ll ∧ BytesR w' rv rl ∧ HashesR w' v L ∧ Handle w' ∧ Below g0 w w')
    (first | assumption | exact S0 | exact keepV hb (by assumption))
    (first | (go_at_call 20; refine (HC.out _ g0 (.int .u32 (A : Int)) (.int .u32 (B : Int)) (.int .u32 (C : Int)) (by assumption)).mono ?_; rintro e w' ⟨u, rfl, hu, hb⟩) | (go_at_call 24; refine (HV.out _ _ g0 (.int .u32 (A : Int)) (.int .u32 (B : Int)) (.int .u32 (C : Int)) (by assumption) (by assumption)).mono ?_; rintro e w' ⟨A1, n1, c1, A2, n2, c2, rfl, hb⟩) | (go_at_call 23; refine (HF.out _ _ _ _ _ _ _ g0 (.int .u32 (A : Int)) (.int .u32 (B : Int)) (.int .u32 (C : Int)) (by assumption)).mono ?_; rintro e w' ⟨rfl, hb⟩))
  all_goals
    obtain ⟨_, _, _, _, _, _, _, hB⟩ : w'.cell? ⟨g0, 0, none⟩ = some (.int .u32 (A : Int)) ∧ w'.cell? ⟨g0, 1, none⟩ = some (.int .u32 (B : Int)) ∧ w'.cell? ⟨g0, 2, none⟩ = some (.int .u32 (C : Int)) ∧ BytesR w' lv ll ∧ BytesR w' rv rl ∧ HashesR w' v L ∧ Handle w' ∧ Below g0 w w' := by assumption
    clear B0 S0 hb hu HC HV HF
    go_wp2
    go_ret
    exact ⟨rfl, HG.out ▸ hB⟩
def h1 : Pl.HF := ⟨1, 0, 0⟩
theorem dirs01 : Pl.dirs 0 1 = [] := by rw [Pl.dirs]; simp
theorem chain01 : Pl.chain h1 [1, 2] ((Pl.dirs 0 1).zip []) = [1, 2] := by rw [dirs01]; rfl
theorem len01 : ([] : List (List Nat)).length = (Pl.dirs 0 1).length := by rw [dirs01]; rfl
theorem hashes_nil (w : World) : HashesR w (.slice none 0 0) [] := ⟨none, 0, rfl, Nat.le_refl _, fun _ h => by simp at h, fun h => by simp at h⟩
theorem bytes_two (w : World) (g a b : Nat) (ha : a < 256) (hb : b < 256) (c0 : w.cell? ⟨g, 0, none⟩ = some (.int .u8 a)) (c1 : w.cell? ⟨g, 1, none⟩ = some (.int .u8 b)) : BytesR w (.slice (some ⟨g, 0, none⟩) 2 2) [a, b] :=
  ⟨_, 2, rfl, Nat.le_refl _, fun x hx => by simp at hx; omega, fun _ => ⟨g, 0, rfl, fun k hk => by
    have hk2 : k = 0 ∨ k = 1 := by have : k < 2 := hk; omega
    rcases hk2 with rfl | rfl
    · simpa using c0
    · simpa using c1⟩⟩
set_option maxHeartbeats 1000000 in
theorem proves_c (w : World) (hH : Handle w) : Calls Tryf.prog 11 #[] w fun e w' => e = .returned (.bool true) ∧ Below w.heap.size w w' := by
  have HY := Lib.hid (fun (W : World) (lv rv : Value) (a : Handle W) (b : BytesR W lv [1, 2]) (c : BytesR W rv [1, 2]) => verI_yes h1 (by unfold Pl.HF.ok h1; decide) 0 1 (by decide) (by decide) lv (.slice none 0 0) rv [1, 2] [1, 2] [] W rfl b (hashes_nil W) c len01 ⟨by decide, fun x hx => by simp at hx⟩ a chain01)
  have HN := Lib.hid (fun (W : World) (lv rv : Value) (a : Handle W) (b : BytesR W lv [1, 2]) (c : BytesR W rv [1, 3]) => verI_no h1 (by unfold Pl.HF.ok h1; decide) 0 1 (by decide) (by decide) lv (.slice none 0 0) rv [1, 2] [1, 3] [] W rfl b (hashes_nil W) c len01 ⟨by decide, fun x hx => by simp at hx⟩ a (by rw [chain01]; decide))
  have HH := Lib.hid hH
  clear hH
  go_enter Tryf.func11, Tryf.ntmps11
  go_wp2_with fail
  have Ba := ((Below.refl w.heap.size w).alloc (Nat.le_refl _) (.cells #[.int .u8 1, .int .u8 2] 5)).alloc (by simp) (.cells #[.int .u8 1, .int .u8 2] 5)
  refine (HY.out _ _ _ (HH.out.below Ba) (bytes_two _ _ 1 2 (by decide) (by decide) (by simp) (by simp)) (bytes_two _ _ 1 2 (by decide) (by decide) (by simp) (by simp))).mono ?_
  rintro e w1 ⟨rfl, hb1⟩
  have B1 := Ba.trans (hb1.mono (by simp; omega))
  clear Ba hb1
  go_wp2_with fail
  have Bb := ((Below.refl w1.heap.size w1).alloc (Nat.le_refl _) (.cells #[.int .u8 1, .int .u8 2] 5)).alloc (by simp) (.cells #[.int .u8 1, .int .u8 3] 5)
  refine (HN.out _ _ _ ((HH.out.below B1).below Bb) (bytes_two _ _ 1 2 (by decide) (by decide) (by simp) (by simp)) (bytes_two _ _ 1 3 (by decide) (by decide) (by simp) (by simp))).mono ?_
  rintro e w2 ⟨rfl, hb2⟩
  have B2 := (B1.trans (Bb.mono B1.size)).trans (hb2.mono (by have := B1.size; simp; omega))
  clear hb2 Bb B1
  go_wp2_with fail
  go_ret
  exact ⟨rfl, B2⟩
end Go.Proofs.YtobnmgnnidhfkaaFmt
