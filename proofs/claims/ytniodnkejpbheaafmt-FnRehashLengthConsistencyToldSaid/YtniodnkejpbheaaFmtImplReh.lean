/- impl.RehashInclusion, impl.RehashConsistency. -/
import Derived.Test.YtniodnkejpbheaaFmtRow
import Derived.Test.YtniodnkejpbheaaFmtPlans
namespace Go.Proofs.YtniodnkejpbheaaFmt
open Go.ChangeShapes Go.WideShapes Go.ChangeAt Go.RowKit
set_option maxRecDepth 20000
theorem Built.row {w : World} {b n c : Nat} {A : Option Addr} {L : List (List Nat)} (h : Built w b (.slice A n c) L) : L.length ≤ c ∧ (0 < L.length → ∃ g, A = some ⟨g, 0, none⟩ ∧ b ≤ g ∧ Row w g L) := by
  obtain ⟨us, ho, hr⟩ := id h
  obtain ⟨A', c', e, hc⟩ := own_slice ho
  injection e with e1 e2 e3
  subst e1 e2 e3
  refine ⟨hc, fun h0 => ?_⟩
  rcases own_cases ho with ⟨h1, _⟩ | ⟨_, g, c2, e, _⟩
  · omega
  · injection e with e1 _ e3
    subst e1 e3
    have := Row.of_built h
    exact ⟨g, rfl, this.2, this.1⟩
abbrev SR (w : World) (g0 gp : Nat) (x1 x2 x3 y1 y2 y3 y4 y5 v : Value) (L : List (List Nat)) (w' : World) : Prop := w'.cell? ⟨g0, 0, none⟩ = some x1 ∧ w'.cell? ⟨g0, 1, none⟩ = some x2 ∧ w'.cell? ⟨g0, 2, none⟩ = some x3 ∧ w'.cell? ⟨gp, 0, none⟩ = some y1 ∧ w'.cell? ⟨gp, 1, none⟩ = some y2 ∧ w'.cell? ⟨gp, 2, none⟩ = some y3 ∧ w'.cell? ⟨gp, 3, none⟩ = some y4 ∧ w'.cell? ⟨gp, 4, none⟩ = some y5 ∧ HashesR w' v L ∧ Below g0 w w'
theorem keepR {w W w' : World} {B gp : Nat} {x1 x2 x3 y1 y2 y3 y4 y5 v : Value} {L : List (List Nat)} (hv : HashesR w v L) (hB : w.heap.size < B) (hP : gp < B) (hb : Below B W w') (h : SR w w.heap.size gp x1 x2 x3 y1 y2 y3 y4 y5 v L W) : SR w w.heap.size gp x1 x2 x3 y1 y2 y3 y4 y5 v L w' :=
  have hbw : Below w.heap.size w w' := h.2.2.2.2.2.2.2.2.2.trans (hb.mono (Nat.le_of_lt hB))
  ⟨(hb.cell hB).trans h.1, (hb.cell hB).trans h.2.1, (hb.cell hB).trans h.2.2.1, (hb.cell hP).trans h.2.2.2.1, (hb.cell hP).trans h.2.2.2.2.1, (hb.cell hP).trans h.2.2.2.2.2.1, (hb.cell hP).trans h.2.2.2.2.2.2.1, (hb.cell hP).trans h.2.2.2.2.2.2.2.1, hv.below hbw, hbw⟩
/-- What the thin functions give. -/
def RetReh (w : World) (R : List (List Nat)) (r : Ending) (w' : World) : Prop := ∃ v, r = .returned (.tuple #[v, .bool true]) ∧ HashesR w' v R ∧ Below w.heap.size w w'
set_option maxHeartbeats 2000000 in
theorem rehIncl_c (h : Pl.HF) (ok : h.ok) (i s b e el ei : Nat) (N : List (Nat × Nat)) (v : Value) (H : List (List Nat)) (w : World) (hT : Tab w) (HI : ∀ W, Tab W → Calls Tryf.prog 33 #[.int .u64 (i : Int), .int .u64 (s : Int)] W (RetPlanT W N b e el ei)) (hv : HashesR w v H) (hf : Fits H) (hN : N.length = H.length) (he : e ≤ H.length) :
    Calls Tryf.prog 26 #[hashV h, .int .u64 (i : Int), .int .u64 (s : Int), v] w (RetReh w (Pl.reh h H b e)) := by
  have HC : Hid (∀ (W : World) (g0 gp : Nat) (x1 x2 x3 y1 y2 y3 y4 y5 : Value), SR w g0 gp x1 x2 x3 y1 y2 y3 y4 y5 v H W → Calls Tryf.prog 42 #[v] W fun r w' => ∃ u, r = .returned u ∧ Built w' W.heap.size u H ∧ Below W.heap.size W w' ∧ g0 < W.heap.size ∧ gp < W.heap.size) :=
    Lib.hid (fun W g0 gp _ _ _ _ _ _ _ _ S => (copied_c v H W S.2.2.2.2.2.2.2.2.1 hf).mono fun _ _ ⟨u, e1, b1, b2⟩ => ⟨u, e1, b1, b2, World.block_lt_of_cell? W _ S.1, World.block_lt_of_cell? W _ S.2.2.2.1⟩)
  have HR : Hid (∀ (Ai : Option Addr) (ci : Nat) (A : Option Addr) (cap base : Nat) (W : World), (Built W base (.slice A H.length cap) H) → base ≤ W.heap.size → Calls Tryf.prog 41 #[.agg #[.slice Ai H.length ci, .int .i64 (b : Int), .int .i64 (e : Int), .int .u64 (el : Int), .int .u64 (ei : Int)], .slice A H.length cap, .func (.func 43) #[hashV h] #[]] W fun r w' => ∃ v, r = .returned (.tuple #[v, .nilIface]) ∧ HashesR w' v (Pl.reh h H b e) ∧ Below base W w') :=
    Lib.hid (fun Ai ci A cap base W hB hb => rehash_c h ok Ai ci b e el ei A cap H base W (hB.row).2 (hB.row).1 he hf.1 hb)
  have HII := Lib.hid HI
  have HTT := Lib.hid hT
  have HV := Lib.hid hv
  generalize Pl.reh h H b e = res at HR ⊢
  have hHl : (H.length : Int) ≤ 2147483647 := by have := hf.1; omega
  clear HI hT hv hf he ok
  generalize hn : H.length = n at *
  have HBL := Lib.hid (fun (w : World) (b : Nat) (v : Value) (h : Built w b v H) => h.form)
  rw [hn] at HBL
  clear hn
  obtain ⟨Ah, Bh, Ch⟩ := h
  unfold hashV at HR ⊢
  simp only [] at HR ⊢
  go_enter Tryf.func26, Tryf.ntmps26
  go_wp2_with fail
  have hb0 := (Below.refl w.heap.size w).alloc (Nat.le_refl _) (.cells #[.int .u32 (Ah : Int), .int .u32 (Bh : Int), .int .u32 (Ch : Int)] 42)
  refine (HII.out _ (HTT.out.below hb0)).mono ?_
  rintro r w1 ⟨v1, rfl, hv1, hb1⟩
  obtain ⟨Ai, ci, rfl, _, _⟩ := id hv1
  rw [hN]
  have hb2 := hb0.trans (hb1.mono (by simp))
  have c1 := (hb1.cell (p := ⟨w.heap.size, 0, none⟩) (by simp)).trans (show (w.alloc (.cells #[.int .u32 (Ah : Int), .int .u32 (Bh : Int), .int .u32 (Ch : Int)] 42)).cell? ⟨w.heap.size, 0, none⟩ = some (.int .u32 (Ah : Int)) by simp)
  have c2 := (hb1.cell (p := ⟨w.heap.size, 1, none⟩) (by simp)).trans (show (w.alloc (.cells #[.int .u32 (Ah : Int), .int .u32 (Bh : Int), .int .u32 (Ch : Int)] 42)).cell? ⟨w.heap.size, 1, none⟩ = some (.int .u32 (Bh : Int)) by simp)
  have c3 := (hb1.cell (p := ⟨w.heap.size, 2, none⟩) (by simp)).trans (show (w.alloc (.cells #[.int .u32 (Ah : Int), .int .u32 (Bh : Int), .int .u32 (Ch : Int)] 42)).cell? ⟨w.heap.size, 2, none⟩ = some (.int .u32 (Ch : Int)) by simp)
  clear hb0 hb1 hv1 HII HTT
  have hb3 := hb2.alloc hb2.size (.cells #[.slice Ai n ci, .int .i64 (b : Int), .int .i64 (e : Int), .int .u64 (el : Int), .int .u64 (ei : Int)] 57)
  have d1 := (((Below.refl w1.heap.size w1).alloc (Nat.le_refl _) (.cells #[.slice Ai n ci, .int .i64 (b : Int), .int .i64 (e : Int), .int .u64 (el : Int), .int .u64 (ei : Int)] 57)).cell (World.block_lt_of_cell? w1 _ c1)).trans c1
  have d2 := (((Below.refl w1.heap.size w1).alloc (Nat.le_refl _) (.cells #[.slice Ai n ci, .int .i64 (b : Int), .int .i64 (e : Int), .int .u64 (el : Int), .int .u64 (ei : Int)] 57)).cell (World.block_lt_of_cell? w1 _ c2)).trans c2
  have d3 := (((Below.refl w1.heap.size w1).alloc (Nat.le_refl _) (.cells #[.slice Ai n ci, .int .i64 (b : Int), .int .i64 (e : Int), .int .u64 (el : Int), .int .u64 (ei : Int)] 57)).cell (World.block_lt_of_cell? w1 _ c3)).trans c3
  have S0 : SR w w.heap.size w1.heap.size (.int .u32 (Ah : Int)) (.int .u32 (Bh : Int)) (.int .u32 (Ch : Int)) (.slice Ai n ci) (.int .i64 (b : Int)) (.int .i64 (e : Int)) (.int .u64 (el : Int)) (.int .u64 (ei : Int)) v H (w1.alloc (.cells #[.slice Ai n ci, .int .i64 (b : Int), .int .i64 (e : Int), .int .u64 (el : Int), .int .u64 (ei : Int)] 57)).drew :=
    ⟨d1, d2, d3, by simp, by simp, by simp, by simp, by simp, HV.out.below hb3.drew, hb3.drew⟩
  have HK : Hid (∀ (B : Nat) (W w' : World) (gp : Nat) (x1 x2 x3 y1 y2 y3 y4 y5 : Value), w.heap.size < B → gp < B → Below B W w' → SR w w.heap.size gp x1 x2 x3 y1 y2 y3 y4 y5 v H W → SR w w.heap.size gp x1 x2 x3 y1 y2 y3 y4 y5 v H w') := Lib.hid (fun B W w' gp _ _ _ _ _ _ _ _ h1 h2 hb S => keepR HV.out h1 h2 hb S)
  clear hb2 hb3 d1 d2 d3 c1 c2 c3
  generalize hg0 : w.heap.size = g0 at *
  have HG : Hid (w.heap.size = g0) := hg0
  clear hg0 HV
  go_wp2_with fail
  generalize hgp : w1.heap.size = gp at *
  go_region_held3 (fun w' => w'.cell? ⟨g0, 0, none⟩ = some (.int .u32 (Ah : Int)) ∧ w'.cell? ⟨g0, 1, none⟩ = some (.int .u32 (Bh : Int)) ∧ w'.cell? ⟨g0, 2, none⟩ = some (.int .u32 (Ch : Int)) ∧ w'.cell? ⟨gp, 0, none⟩ = some (.slice Ai n ci) ∧ w'.cell? ⟨gp, 1, none⟩ = some (.int .i64 (b : Int)) ∧ w'.cell? ⟨gp, 2, none⟩ = some (.int .i64 (e : Int)) ∧ w'.cell? ⟨gp, 3, none⟩ = some (.int .u64 (el : Int)) ∧ w'.cell? ⟨gp, 4, none⟩ = some (.int .u64 (ei : Int)) ∧ HashesR w' v H ∧ Below g0 w w')
    (first | assumption | exact S0 | exact HK.out _ _ _ _ _ _ _ _ _ _ _ _ hl1 hl2 hb (by assumption))
    (first
      | (go_at_call 42; refine (HC.out _ g0 gp (.int .u32 (Ah : Int)) (.int .u32 (Bh : Int)) (.int .u32 (Ch : Int)) (.slice Ai n ci) (.int .i64 (b : Int)) (.int .i64 (e : Int)) (.int .u64 (el : Int)) (.int .u64 (ei : Int)) (by assumption)).mono ?_; rintro r w' ⟨u, rfl, hu, hb, hl1, hl2⟩; obtain ⟨Au, cu, rfl, _⟩ := HBL.out _ _ _ hu)
      | (go_at_call 41; refine (HR.out _ _ _ _ _ _ hu hb.size).mono ?_; rintro r w' ⟨u2, rfl, hu2, hb⟩))
  all_goals
    have hB : w'.cell? ⟨g0, 0, none⟩ = some (.int .u32 (Ah : Int)) ∧ w'.cell? ⟨g0, 1, none⟩ = some (.int .u32 (Bh : Int)) ∧ w'.cell? ⟨g0, 2, none⟩ = some (.int .u32 (Ch : Int)) ∧ w'.cell? ⟨gp, 0, none⟩ = some (.slice Ai n ci) ∧ w'.cell? ⟨gp, 1, none⟩ = some (.int .i64 (b : Int)) ∧ w'.cell? ⟨gp, 2, none⟩ = some (.int .i64 (e : Int)) ∧ w'.cell? ⟨gp, 3, none⟩ = some (.int .u64 (el : Int)) ∧ w'.cell? ⟨gp, 4, none⟩ = some (.int .u64 (ei : Int)) ∧ HashesR w' v H ∧ Below g0 w w' := by assumption
    obtain ⟨Av, cv, rfl, _⟩ := id hu2
    clear S0 HK HC HR HBL hu hb
    go_wp2_with fail
    go_ret2
    exact ⟨_, rfl, hu2, by rw [HG.out]; exact hB.2.2.2.2.2.2.2.2.2⟩
set_option maxHeartbeats 2000000 in
theorem rehCons_c (h : Pl.HF) (ok : h.ok) (i s b e el ei : Nat) (N : List (Nat × Nat)) (v : Value) (H : List (List Nat)) (w : World) (hT : Tab w) (HI : ∀ W, Tab W → Calls Tryf.prog 39 #[.int .u64 (i : Int), .int .u64 (s : Int)] W (RetPlanT W N b e el ei)) (hv : HashesR w v H) (hf : Fits H) (hN : N.length = H.length) (he : e ≤ H.length) :
    Calls Tryf.prog 31 #[hashV h, .int .u64 (i : Int), .int .u64 (s : Int), v] w (RetReh w (Pl.reh h H b e)) := by
  have HC : Hid (∀ (W : World) (g0 gp : Nat) (x1 x2 x3 y1 y2 y3 y4 y5 : Value), SR w g0 gp x1 x2 x3 y1 y2 y3 y4 y5 v H W → Calls Tryf.prog 42 #[v] W fun r w' => ∃ u, r = .returned u ∧ Built w' W.heap.size u H ∧ Below W.heap.size W w' ∧ g0 < W.heap.size ∧ gp < W.heap.size) :=
    Lib.hid (fun W g0 gp _ _ _ _ _ _ _ _ S => (copied_c v H W S.2.2.2.2.2.2.2.2.1 hf).mono fun _ _ ⟨u, e1, b1, b2⟩ => ⟨u, e1, b1, b2, World.block_lt_of_cell? W _ S.1, World.block_lt_of_cell? W _ S.2.2.2.1⟩)
  have HR : Hid (∀ (Ai : Option Addr) (ci : Nat) (A : Option Addr) (cap base : Nat) (W : World), (Built W base (.slice A H.length cap) H) → base ≤ W.heap.size → Calls Tryf.prog 41 #[.agg #[.slice Ai H.length ci, .int .i64 (b : Int), .int .i64 (e : Int), .int .u64 (el : Int), .int .u64 (ei : Int)], .slice A H.length cap, .func (.func 43) #[hashV h] #[]] W fun r w' => ∃ v, r = .returned (.tuple #[v, .nilIface]) ∧ HashesR w' v (Pl.reh h H b e) ∧ Below base W w') :=
    Lib.hid (fun Ai ci A cap base W hB hb => rehash_c h ok Ai ci b e el ei A cap H base W (hB.row).2 (hB.row).1 he hf.1 hb)
  have HII := Lib.hid HI
  have HTT := Lib.hid hT
  have HV := Lib.hid hv
  generalize Pl.reh h H b e = res at HR ⊢
  have hHl : (H.length : Int) ≤ 2147483647 := by have := hf.1; omega
  clear HI hT hv hf he ok
  generalize hn : H.length = n at *
  have HBL := Lib.hid (fun (w : World) (b : Nat) (v : Value) (h : Built w b v H) => h.form)
  rw [hn] at HBL
  clear hn
  obtain ⟨Ah, Bh, Ch⟩ := h
  unfold hashV at HR ⊢
  simp only [] at HR ⊢
  go_enter Tryf.func31, Tryf.ntmps31
  go_wp2_with fail
  have hb0 := (Below.refl w.heap.size w).alloc (Nat.le_refl _) (.cells #[.int .u32 (Ah : Int), .int .u32 (Bh : Int), .int .u32 (Ch : Int)] 42)
  refine (HII.out _ (HTT.out.below hb0)).mono ?_
  rintro r w1 ⟨v1, rfl, hv1, hb1⟩
  obtain ⟨Ai, ci, rfl, _, _⟩ := id hv1
  rw [hN]
  have hb2 := hb0.trans (hb1.mono (by simp))
  have c1 := (hb1.cell (p := ⟨w.heap.size, 0, none⟩) (by simp)).trans (show (w.alloc (.cells #[.int .u32 (Ah : Int), .int .u32 (Bh : Int), .int .u32 (Ch : Int)] 42)).cell? ⟨w.heap.size, 0, none⟩ = some (.int .u32 (Ah : Int)) by simp)
  have c2 := (hb1.cell (p := ⟨w.heap.size, 1, none⟩) (by simp)).trans (show (w.alloc (.cells #[.int .u32 (Ah : Int), .int .u32 (Bh : Int), .int .u32 (Ch : Int)] 42)).cell? ⟨w.heap.size, 1, none⟩ = some (.int .u32 (Bh : Int)) by simp)
  have c3 := (hb1.cell (p := ⟨w.heap.size, 2, none⟩) (by simp)).trans (show (w.alloc (.cells #[.int .u32 (Ah : Int), .int .u32 (Bh : Int), .int .u32 (Ch : Int)] 42)).cell? ⟨w.heap.size, 2, none⟩ = some (.int .u32 (Ch : Int)) by simp)
  clear hb0 hb1 hv1 HII HTT
  have hb3 := hb2.alloc hb2.size (.cells #[.slice Ai n ci, .int .i64 (b : Int), .int .i64 (e : Int), .int .u64 (el : Int), .int .u64 (ei : Int)] 57)
  have d1 := (((Below.refl w1.heap.size w1).alloc (Nat.le_refl _) (.cells #[.slice Ai n ci, .int .i64 (b : Int), .int .i64 (e : Int), .int .u64 (el : Int), .int .u64 (ei : Int)] 57)).cell (World.block_lt_of_cell? w1 _ c1)).trans c1
  have d2 := (((Below.refl w1.heap.size w1).alloc (Nat.le_refl _) (.cells #[.slice Ai n ci, .int .i64 (b : Int), .int .i64 (e : Int), .int .u64 (el : Int), .int .u64 (ei : Int)] 57)).cell (World.block_lt_of_cell? w1 _ c2)).trans c2
  have d3 := (((Below.refl w1.heap.size w1).alloc (Nat.le_refl _) (.cells #[.slice Ai n ci, .int .i64 (b : Int), .int .i64 (e : Int), .int .u64 (el : Int), .int .u64 (ei : Int)] 57)).cell (World.block_lt_of_cell? w1 _ c3)).trans c3
  have S0 : SR w w.heap.size w1.heap.size (.int .u32 (Ah : Int)) (.int .u32 (Bh : Int)) (.int .u32 (Ch : Int)) (.slice Ai n ci) (.int .i64 (b : Int)) (.int .i64 (e : Int)) (.int .u64 (el : Int)) (.int .u64 (ei : Int)) v H (w1.alloc (.cells #[.slice Ai n ci, .int .i64 (b : Int), .int .i64 (e : Int), .int .u64 (el : Int), .int .u64 (ei : Int)] 57)).drew :=
    ⟨d1, d2, d3, by simp, by simp, by simp, by simp, by simp, HV.out.below hb3.drew, hb3.drew⟩
  have HK : Hid (∀ (B : Nat) (W w' : World) (gp : Nat) (x1 x2 x3 y1 y2 y3 y4 y5 : Value), w.heap.size < B → gp < B → Below B W w' → SR w w.heap.size gp x1 x2 x3 y1 y2 y3 y4 y5 v H W → SR w w.heap.size gp x1 x2 x3 y1 y2 y3 y4 y5 v H w') := Lib.hid (fun B W w' gp _ _ _ _ _ _ _ _ h1 h2 hb S => keepR HV.out h1 h2 hb S)
  clear hb2 hb3 d1 d2 d3 c1 c2 c3
  generalize hg0 : w.heap.size = g0 at *
  have HG : Hid (w.heap.size = g0) := hg0
  clear hg0 HV
  go_wp2_with fail
  generalize hgp : w1.heap.size = gp at *
  go_region_held3 (fun w' => w'.cell? ⟨g0, 0, none⟩ = some (.int .u32 (Ah : Int)) ∧ w'.cell? ⟨g0, 1, none⟩ = some (.int .u32 (Bh : Int)) ∧ w'.cell? ⟨g0, 2, none⟩ = some (.int .u32 (Ch : Int)) ∧ w'.cell? ⟨gp, 0, none⟩ = some (.slice Ai n ci) ∧ w'.cell? ⟨gp, 1, none⟩ = some (.int .i64 (b : Int)) ∧ w'.cell? ⟨gp, 2, none⟩ = some (.int .i64 (e : Int)) ∧ w'.cell? ⟨gp, 3, none⟩ = some (.int .u64 (el : Int)) ∧ w'.cell? ⟨gp, 4, none⟩ = some (.int .u64 (ei : Int)) ∧ HashesR w' v H ∧ Below g0 w w')
    (first | assumption | exact S0 | exact HK.out _ _ _ _ _ _ _ _ _ _ _ _ hl1 hl2 hb (by assumption))
    (first
      | (go_at_call 42; refine (HC.out _ g0 gp (.int .u32 (Ah : Int)) (.int .u32 (Bh : Int)) (.int .u32 (Ch : Int)) (.slice Ai n ci) (.int .i64 (b : Int)) (.int .i64 (e : Int)) (.int .u64 (el : Int)) (.int .u64 (ei : Int)) (by assumption)).mono ?_; rintro r w' ⟨u, rfl, hu, hb, hl1, hl2⟩; obtain ⟨Au, cu, rfl, _⟩ := HBL.out _ _ _ hu)
      | (go_at_call 41; refine (HR.out _ _ _ _ _ _ hu hb.size).mono ?_; rintro r w' ⟨u2, rfl, hu2, hb⟩))
  all_goals
    have hB : w'.cell? ⟨g0, 0, none⟩ = some (.int .u32 (Ah : Int)) ∧ w'.cell? ⟨g0, 1, none⟩ = some (.int .u32 (Bh : Int)) ∧ w'.cell? ⟨g0, 2, none⟩ = some (.int .u32 (Ch : Int)) ∧ w'.cell? ⟨gp, 0, none⟩ = some (.slice Ai n ci) ∧ w'.cell? ⟨gp, 1, none⟩ = some (.int .i64 (b : Int)) ∧ w'.cell? ⟨gp, 2, none⟩ = some (.int .i64 (e : Int)) ∧ w'.cell? ⟨gp, 3, none⟩ = some (.int .u64 (el : Int)) ∧ w'.cell? ⟨gp, 4, none⟩ = some (.int .u64 (ei : Int)) ∧ HashesR w' v H ∧ Below g0 w w' := by assumption
    obtain ⟨Av, cv, rfl, _⟩ := id hu2
    clear S0 HK HC HR HBL hu hb
    go_wp2_with fail
    go_ret2
    exact ⟨_, rfl, hu2, by rw [HG.out]; exact hB.2.2.2.2.2.2.2.2.2⟩
end Go.Proofs.YtniodnkejpbheaaFmt
