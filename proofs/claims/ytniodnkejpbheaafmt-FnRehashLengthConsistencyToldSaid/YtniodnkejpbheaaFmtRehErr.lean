/- proof.Nodes.Rehash and the thin functions at hashes that are not as many as the nodes; spec.Hashes. -/
import Derived.Test.YtniodnkejpbheaaFmtErr
import Derived.Test.YtniodnkejpbheaaFmtImplReh
import Derived.Test.YtniodnkejpbheaaFmtFits
namespace Go.Proofs.YtniodnkejpbheaaFmt
open Go.ChangeShapes Go.WideShapes Go.ChangeAt Go.RowKit
set_option maxRecDepth 20000
theorem hashes_s (v : Value) (L : List (List Nat)) (w : World) (hv : HashesR w v L) (hle : L.length ≤ 2147483647) : Calls Tryf.prog 30 #[v] w (RetIs w (L.length = 0 ∨ IsLeaves L)) := by
  have HL := Lib.hid (leaves_c v L w hv hle)
  obtain ⟨A, cap, rfl, hc9⟩ := id hv
  clear hv hc9
  by_cases h0 : L.length = 0
  · have e0 : (L.length : Int) = 0 := by omega
    rw [h0] at HL ⊢
    clear e0
    go_enter Tryf.func30, Tryf.ntmps30
    go_wp2_with fail
    go_ret
    exact ⟨.inl ⟨by simp, rfl⟩, rfl⟩
  · have e0 : ¬ (L.length : Int) = 0 := by omega
    by_cases hl : IsLeaves L
    · have HL2 : Hid (Calls Tryf.prog 24 #[.slice A L.length cap] w fun e w' => e = .returned (.bool true) ∧ w = w') := Lib.hid (HL.out.mono fun _ _ r => r.yes hl)
      have hx : Hid (L.length = 0 ∨ IsLeaves L) := .inr hl
      generalize L.length = n at *
      clear HL hl h0
      go_enter Tryf.func30, Tryf.ntmps30
      go_wp2_with fail
      refine HL2.out.mono ?_; rintro e w' ⟨rfl, rfl⟩
      go_wp2_with fail
      go_ret
      exact ⟨.inl ⟨hx.out, rfl⟩, rfl⟩
    · have HL2 : Hid (Calls Tryf.prog 24 #[.slice A L.length cap] w fun e w' => e = .returned (.bool false) ∧ w = w') := Lib.hid (HL.out.mono fun _ _ r => r.no hl)
      have hx : Hid (¬ (L.length = 0 ∨ IsLeaves L)) := fun h => h.elim h0 hl
      generalize L.length = n at *
      clear HL hl h0
      go_enter Tryf.func30, Tryf.ntmps30
      go_wp2_with fail
      refine HL2.out.mono ?_; rintro e w' ⟨rfl, rfl⟩
      go_wp2_with fail
      go_ret
      exact ⟨.inr ⟨hx.out, by simpa using e0⟩, rfl⟩
theorem fmtGot : Fmt2 ⟨#[103, 111, 116, 32, 37, 100, 32, 104, 97, 115, 104, 101, 115, 32, 98, 117, 116, 32, 101, 120, 112, 101, 99, 116, 101, 100, 32, 37, 100]⟩ := ⟨by kernel_rfl, fun w => by kernel_rfl⟩
theorem rehash_err (F : Stop.Interp) (Ai A : Option Addr) (ci cap nN nH : Nat) (y2 y3 y4 y5 fv : Value) (w : World) (hF : F.answers w.tape) (hne : ¬ (nH : Int) = (nN : Int)) :
    Calls Tryf.prog 41 #[.agg #[.slice Ai nN ci, y2, y3, y4, y5], .slice A nH cap, fv] w fun r w' => ∃ g, r = .returned (.tuple #[.slice none 0 0, .iface 104 (.pointer (some ⟨g, 0, none⟩))]) ∧ Below w.heap.size w w' := by
  have HF := Lib.hid (fun (W : World) (hb : Below w.heap.size w W) => ans_below hF hb)
  clear hF
  go_enter Tryf.func41, Tryf.ntmps41
  go_wp2_with fail
  go_region
  go_wp2_with fail
  refine (errorf_ii F _ fmtGot (nH : Int) (nN : Int) _ _ (HF.out _ (((Below.refl _ _).alloc (Nat.le_refl _) _).alloc (by simp) _).drew) (by simp) (by simp)).mono ?_
  rintro r w1 ⟨⟨g, rfl⟩, hb⟩
  go_wp2_with fail
  go_ret2
  exact ⟨g, rfl, ((((Below.refl _ _).alloc (Nat.le_refl _) _).alloc (by simp) _).drew).trans (hb.mono (by simp; omega))⟩
abbrev SE (w : World) (gp : Nat) (x1 x2 x3 y1 y2 y3 y4 y5 : Value) (w' : World) : Prop := w'.cell? ⟨w.heap.size, 0, none⟩ = some x1 ∧ w'.cell? ⟨w.heap.size, 1, none⟩ = some x2 ∧ w'.cell? ⟨w.heap.size, 2, none⟩ = some x3 ∧ w'.cell? ⟨gp, 0, none⟩ = some y1 ∧ w'.cell? ⟨gp, 1, none⟩ = some y2 ∧ w'.cell? ⟨gp, 2, none⟩ = some y3 ∧ w'.cell? ⟨gp, 3, none⟩ = some y4 ∧ w'.cell? ⟨gp, 4, none⟩ = some y5 ∧ Below w.heap.size w w'
theorem keepE {w W w' : World} {gp : Nat} {x1 x2 x3 y1 y2 y3 y4 y5 : Value} (hb : Below W.heap.size W w') (h : SE w gp x1 x2 x3 y1 y2 y3 y4 y5 W) : SE w gp x1 x2 x3 y1 y2 y3 y4 y5 w' :=
  have up : ∀ {p : Addr} {v : Value}, W.cell? p = some v → w'.cell? p = some v := fun {p} {_} h => (hb.cell (World.block_lt_of_cell? W p h)).trans h
  ⟨up h.1, up h.2.1, up h.2.2.1, up h.2.2.2.1, up h.2.2.2.2.1, up h.2.2.2.2.2.1, up h.2.2.2.2.2.2.1, up h.2.2.2.2.2.2.2.1, h.2.2.2.2.2.2.2.2.trans (hb.mono h.2.2.2.2.2.2.2.2.size)⟩
theorem blk_se {w w' : World} {gp : Nat} {x1 x2 x3 y1 y2 y3 y4 y5 : Value} {t t' : TypeId} (h1 : Blk w' w.heap.size t #[x1, x2, x3]) (h2 : Blk w' gp t' #[y1, y2, y3, y4, y5]) (hb : Below w.heap.size w w') : SE w gp x1 x2 x3 y1 y2 y3 y4 y5 w' :=
  ⟨h1.cell 0, h1.cell 1, h1.cell 2, h2.cell 0, h2.cell 1, h2.cell 2, h2.cell 3, h2.cell 4, hb⟩
/-- The thin functions' answer at an error. -/
def RetNoH (w : World) (r : Ending) (w' : World) : Prop := (∃ A c, r = .returned (.tuple #[.slice A 0 c, .bool false])) ∧ Below w.heap.size w w'
set_option maxHeartbeats 2000000 in
theorem rehIncl_err (F : Stop.Interp) (h : Pl.HF) (i s b e el ei : Nat) (N : List (Nat × Nat)) (v : Value) (H : List (List Nat)) (w : World) (hF : F.answers w.tape) (hT : Tab w) (HI : ∀ W, Tab W → Calls Tryf.prog 33 #[.int .u64 (i : Int), .int .u64 (s : Int)] W (RetPlanT W N b e el ei)) (hv : HashesR w v H) (hf : Fits H) (hN : ¬ H.length = N.length) :
    Calls Tryf.prog 26 #[hashV h, .int .u64 (i : Int), .int .u64 (s : Int), v] w (RetNoH w) := by
  have HC := Lib.hid (fun (W : World) (hb : Below w.heap.size w W) => (copied_c v H W (hv.below hb) hf).mono fun r w' ⟨u, e1, b1, b2⟩ => show ∃ A c, r = Ending.returned (.slice A H.length c) ∧ Below W.heap.size W w' from by obtain ⟨A, c, rfl, _⟩ := b1.form; exact ⟨A, c, e1, b2⟩)
  have HR := Lib.hid (fun (Ai A : Option Addr) (ci cap : Nat) (y2 y3 y4 y5 fv : Value) (W : World) (hb : Below w.heap.size w W) => rehash_err F Ai A ci cap N.length H.length y2 y3 y4 y5 fv W (ans_below hF hb) (by omega))
  have HII := Lib.hid HI
  have HTT := Lib.hid (fun (W : World) (hb : Below w.heap.size w W) => hT.below hb)
  obtain ⟨A, cap, rfl, hc9⟩ := id hv
  have hHl : (H.length : Int) ≤ 2147483647 := by have := hf.1; omega
  clear HI hT hv hf hN hF hc9
  generalize H.length = n at *
  obtain ⟨Ah, Bh, Ch⟩ := h
  unfold hashV
  simp only []
  go_enter Tryf.func26, Tryf.ntmps26
  go_wp2_with fail
  have hb0 := (Below.refl w.heap.size w).alloc (Nat.le_refl _) (.cells #[.int .u32 (Ah : Int), .int .u32 (Bh : Int), .int .u32 (Ch : Int)] 42)
  refine (HII.out _ (HTT.out _ hb0)).mono ?_
  rintro r w1 ⟨v1, rfl, hv1, hb1⟩
  obtain ⟨Ai, ci, rfl, _, _⟩ := id hv1
  have hb2 := hb0.trans (hb1.mono (by simp))
  have K1 : Blk w1 w.heap.size 42 #[.int .u32 (Ah : Int), .int .u32 (Bh : Int), .int .u32 (Ch : Int)] := (Blk.new w _ _).below' hb1
  clear hb0 hb1 hv1 HII HTT
  have S0 := Lib.hid (blk_se (K1.alloc (.cells #[.slice Ai N.length ci, .int .i64 (b : Int), .int .i64 (e : Int), .int .u64 (el : Int), .int .u64 (ei : Int)] 57)).drew (Blk.new w1 57 #[.slice Ai N.length ci, .int .i64 (b : Int), .int .i64 (e : Int), .int .u64 (el : Int), .int .u64 (ei : Int)]).drew (hb2.alloc hb2.size _).drew)
  clear K1 hb2
  go_wp2_with fail
  generalize hgp : w1.heap.size = gp at *
  clear hgp
  go_region_held3 (fun w' => w'.cell? ⟨w.heap.size, 0, none⟩ = some (.int .u32 (Ah : Int)) ∧ w'.cell? ⟨w.heap.size, 1, none⟩ = some (.int .u32 (Bh : Int)) ∧ w'.cell? ⟨w.heap.size, 2, none⟩ = some (.int .u32 (Ch : Int)) ∧ w'.cell? ⟨gp, 0, none⟩ = some (.slice Ai N.length ci) ∧ w'.cell? ⟨gp, 1, none⟩ = some (.int .i64 (b : Int)) ∧ w'.cell? ⟨gp, 2, none⟩ = some (.int .i64 (e : Int)) ∧ w'.cell? ⟨gp, 3, none⟩ = some (.int .u64 (el : Int)) ∧ w'.cell? ⟨gp, 4, none⟩ = some (.int .u64 (ei : Int)) ∧ Below w.heap.size w w')
    (first | assumption | exact S0.out | exact keepE hb (by assumption))
    (first
      | (go_at_call 42; refine (HC.out _ (show SE w gp (.int .u32 (Ah : Int)) (.int .u32 (Bh : Int)) (.int .u32 (Ch : Int)) (.slice Ai N.length ci) (.int .i64 (b : Int)) (.int .i64 (e : Int)) (.int .u64 (el : Int)) (.int .u64 (ei : Int)) _ by assumption).2.2.2.2.2.2.2.2).mono ?_; rintro r w' ⟨Au, cu, rfl, hb⟩)
      | (go_at_call 41; refine (HR.out _ _ _ _ _ _ _ _ _ _ (show SE w gp (.int .u32 (Ah : Int)) (.int .u32 (Bh : Int)) (.int .u32 (Ch : Int)) (.slice Ai N.length ci) (.int .i64 (b : Int)) (.int .i64 (e : Int)) (.int .u64 (el : Int)) (.int .u64 (ei : Int)) _ by assumption).2.2.2.2.2.2.2.2).mono ?_; rintro r w' ⟨ge, rfl, hb⟩))
  all_goals
    have hB := (show SE w gp (.int .u32 (Ah : Int)) (.int .u32 (Bh : Int)) (.int .u32 (Ch : Int)) (.slice Ai N.length ci) (.int .i64 (b : Int)) (.int .i64 (e : Int)) (.int .u64 (el : Int)) (.int .u64 (ei : Int)) w' by assumption).2.2.2.2.2.2.2.2
    clear S0 HC HR hb
    go_wp2_with fail
    go_ret2
    exact ⟨⟨_, _, rfl⟩, hB.alloc hB.size _⟩
set_option maxHeartbeats 2000000 in
theorem rehCons_err (F : Stop.Interp) (h : Pl.HF) (i s b e el ei : Nat) (N : List (Nat × Nat)) (v : Value) (H : List (List Nat)) (w : World) (hF : F.answers w.tape) (hT : Tab w) (HI : ∀ W, Tab W → Calls Tryf.prog 39 #[.int .u64 (i : Int), .int .u64 (s : Int)] W (RetPlanT W N b e el ei)) (hv : HashesR w v H) (hf : Fits H) (hN : ¬ H.length = N.length) :
    Calls Tryf.prog 31 #[hashV h, .int .u64 (i : Int), .int .u64 (s : Int), v] w (RetNoH w) := by
  have HC := Lib.hid (fun (W : World) (hb : Below w.heap.size w W) => (copied_c v H W (hv.below hb) hf).mono fun r w' ⟨u, e1, b1, b2⟩ => show ∃ A c, r = Ending.returned (.slice A H.length c) ∧ Below W.heap.size W w' from by obtain ⟨A, c, rfl, _⟩ := b1.form; exact ⟨A, c, e1, b2⟩)
  have HR := Lib.hid (fun (Ai A : Option Addr) (ci cap : Nat) (y2 y3 y4 y5 fv : Value) (W : World) (hb : Below w.heap.size w W) => rehash_err F Ai A ci cap N.length H.length y2 y3 y4 y5 fv W (ans_below hF hb) (by omega))
  have HII := Lib.hid HI
  have HTT := Lib.hid (fun (W : World) (hb : Below w.heap.size w W) => hT.below hb)
  obtain ⟨A, cap, rfl, hc9⟩ := id hv
  have hHl : (H.length : Int) ≤ 2147483647 := by have := hf.1; omega
  clear HI hT hv hf hN hF hc9
  generalize H.length = n at *
  obtain ⟨Ah, Bh, Ch⟩ := h
  unfold hashV
  simp only []
  go_enter Tryf.func31, Tryf.ntmps31
  go_wp2_with fail
  have hb0 := (Below.refl w.heap.size w).alloc (Nat.le_refl _) (.cells #[.int .u32 (Ah : Int), .int .u32 (Bh : Int), .int .u32 (Ch : Int)] 42)
  refine (HII.out _ (HTT.out _ hb0)).mono ?_
  rintro r w1 ⟨v1, rfl, hv1, hb1⟩
  obtain ⟨Ai, ci, rfl, _, _⟩ := id hv1
  have hb2 := hb0.trans (hb1.mono (by simp))
  have K1 : Blk w1 w.heap.size 42 #[.int .u32 (Ah : Int), .int .u32 (Bh : Int), .int .u32 (Ch : Int)] := (Blk.new w _ _).below' hb1
  clear hb0 hb1 hv1 HII HTT
  have S0 := Lib.hid (blk_se (K1.alloc (.cells #[.slice Ai N.length ci, .int .i64 (b : Int), .int .i64 (e : Int), .int .u64 (el : Int), .int .u64 (ei : Int)] 57)).drew (Blk.new w1 57 #[.slice Ai N.length ci, .int .i64 (b : Int), .int .i64 (e : Int), .int .u64 (el : Int), .int .u64 (ei : Int)]).drew (hb2.alloc hb2.size _).drew)
  clear K1 hb2
  go_wp2_with fail
  generalize hgp : w1.heap.size = gp at *
  clear hgp
  go_region_held3 (fun w' => w'.cell? ⟨w.heap.size, 0, none⟩ = some (.int .u32 (Ah : Int)) ∧ w'.cell? ⟨w.heap.size, 1, none⟩ = some (.int .u32 (Bh : Int)) ∧ w'.cell? ⟨w.heap.size, 2, none⟩ = some (.int .u32 (Ch : Int)) ∧ w'.cell? ⟨gp, 0, none⟩ = some (.slice Ai N.length ci) ∧ w'.cell? ⟨gp, 1, none⟩ = some (.int .i64 (b : Int)) ∧ w'.cell? ⟨gp, 2, none⟩ = some (.int .i64 (e : Int)) ∧ w'.cell? ⟨gp, 3, none⟩ = some (.int .u64 (el : Int)) ∧ w'.cell? ⟨gp, 4, none⟩ = some (.int .u64 (ei : Int)) ∧ Below w.heap.size w w')
    (first | assumption | exact S0.out | exact keepE hb (by assumption))
    (first
      | (go_at_call 42; refine (HC.out _ (show SE w gp (.int .u32 (Ah : Int)) (.int .u32 (Bh : Int)) (.int .u32 (Ch : Int)) (.slice Ai N.length ci) (.int .i64 (b : Int)) (.int .i64 (e : Int)) (.int .u64 (el : Int)) (.int .u64 (ei : Int)) _ by assumption).2.2.2.2.2.2.2.2).mono ?_; rintro r w' ⟨Au, cu, rfl, hb⟩)
      | (go_at_call 41; refine (HR.out _ _ _ _ _ _ _ _ _ _ (show SE w gp (.int .u32 (Ah : Int)) (.int .u32 (Bh : Int)) (.int .u32 (Ch : Int)) (.slice Ai N.length ci) (.int .i64 (b : Int)) (.int .i64 (e : Int)) (.int .u64 (el : Int)) (.int .u64 (ei : Int)) _ by assumption).2.2.2.2.2.2.2.2).mono ?_; rintro r w' ⟨ge, rfl, hb⟩))
  all_goals
    have hB := (show SE w gp (.int .u32 (Ah : Int)) (.int .u32 (Bh : Int)) (.int .u32 (Ch : Int)) (.slice Ai N.length ci) (.int .i64 (b : Int)) (.int .i64 (e : Int)) (.int .u64 (el : Int)) (.int .u64 (ei : Int)) w' by assumption).2.2.2.2.2.2.2.2
    clear S0 HC HR hb
    go_wp2_with fail
    go_ret2
    exact ⟨⟨_, _, rfl⟩, hB.alloc hB.size _⟩
end Go.Proofs.YtniodnkejpbheaaFmt
