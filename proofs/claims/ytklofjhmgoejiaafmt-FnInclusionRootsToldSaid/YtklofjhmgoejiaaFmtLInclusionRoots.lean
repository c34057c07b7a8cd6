/- A proof tells the root of a tree of the leaf and what it tells: turned at its end, it tells another hash of it. -/
import Derived.Test.YtklofjhmgoejiaaFmtVerErr
import Derived.Test.YtklofjhmgoejiaaFmtCollides
import Derived.Test.YtklofjhmgoejiaaFmtFits
import Derived.Test.YtklofjhmgoejiaaFmtRoots
import Derived.Test.YtklofjhmgoejiaaFmtOpenH
namespace Go.Proofs.YtklofjhmgoejiaaFmt.fnInclusionRoots
open Go.ChangeShapes Go.WideShapes Go.ChangeAt Go.RowKit
set_option maxRecDepth 100000
theorem keep1 {w W w' : World} (h : Below w.heap.size w W) (hb : Below W.heap.size W w') : Below w.heap.size w w' := h.trans (hb.mono h.size)
abbrev S1 (w : World) (x1 x2 x3 : Value) (w' : World) : Prop := w'.cell? ⟨w.heap.size, 0, none⟩ = some x1 ∧ w'.cell? ⟨w.heap.size, 1, none⟩ = some x2 ∧ w'.cell? ⟨w.heap.size, 2, none⟩ = some x3 ∧ Below w.heap.size w w'
theorem keepS1 {w W w' : World} {x1 x2 x3 : Value} (hb : Below W.heap.size W w') (h : S1 w x1 x2 x3 W) : S1 w x1 x2 x3 w' :=
  have up : ∀ {p : Addr} {v : Value}, W.cell? p = some v → w'.cell? p = some v := fun {p} {_} h => (hb.cell (World.block_lt_of_cell? W p h)).trans h
  ⟨up h.1, up h.2.1, up h.2.2.1, h.2.2.2.trans (hb.mono h.2.2.2.size)⟩
abbrev S2 (w w1 : World) (x1 x2 x3 : Value) (w' : World) : Prop := w'.cell? ⟨w.heap.size, 0, none⟩ = some x1 ∧ w'.cell? ⟨w.heap.size, 1, none⟩ = some x2 ∧ w'.cell? ⟨w.heap.size, 2, none⟩ = some x3 ∧ Below w1.heap.size w1 w'
theorem keepS2 {w w1 W w' : World} {x1 x2 x3 : Value} (hlt : w.heap.size < w1.heap.size) (hb : Below w1.heap.size W w') (h : S2 w w1 x1 x2 x3 W) : S2 w w1 x1 x2 x3 w' :=
  ⟨(hb.cell hlt).trans h.1, (hb.cell hlt).trans h.2.1, (hb.cell hlt).trans h.2.2.1, h.2.2.2.trans hb⟩
theorem keepS2c {w w1 W w' : World} {x1 x2 x3 : Value} (hlt : w.heap.size < w1.heap.size) (hb : Below W.heap.size W w') (h : S2 w w1 x1 x2 x3 W) : S2 w w1 x1 x2 x3 w' := keepS2 hlt (hb.mono h.2.2.2.size) h
theorem keepS2a {w w1 W : World} {x1 x2 x3 : Value} (hlt : w.heap.size < w1.heap.size) (o : Obj) (h : S2 w w1 x1 x2 x3 W) : S2 w w1 x1 x2 x3 (W.alloc o) := keepS2c hlt ((Below.refl _ _).alloc (Nat.le_refl _) o) h
theorem chain_two_l {h : Pl.HF} {al x : List Nat} {i s n : Nat} {P : List (List Nat)} (h2 : 2 ≤ s) (hk : i < Pl.split s) (hP : P.length = n + 1) (hn : n = (Pl.dirs i (Pl.split s)).length) : Pl.chain h al ((Pl.dirs i s).zip (P.take n ++ [x])) = h.hc (Pl.chain h al ((Pl.dirs i (Pl.split s)).zip (P.take n))) x := by
  have hl : (P.take n).length = n := by simp; omega
  have := chain_l (h := h) (al := al) (P := P.take n ++ [x]) h2 hk (by rw [List.length_append, hl]; rfl) hn
  rw [this, List.take_append_of_le_length (by rw [hl]; exact Nat.le_refl _), List.take_of_length_le (l := P.take n) (by rw [hl]; exact Nat.le_refl _)]
  congr 1
  rw [List.getD_eq_getElem?_getD, List.getElem?_append_right (by rw [hl]; exact Nat.le_refl _), hl, Nat.sub_self]; rfl
theorem chain_two_r {h : Pl.HF} {al x : List Nat} {i s n : Nat} {P : List (List Nat)} (h2 : 2 ≤ s) (hk : ¬ i < Pl.split s) (hP : P.length = n + 1) (hn : n = (Pl.dirs (i - Pl.split s) (s - Pl.split s)).length) : Pl.chain h al ((Pl.dirs i s).zip (P.take n ++ [x])) = h.hc x (Pl.chain h al ((Pl.dirs (i - Pl.split s) (s - Pl.split s)).zip (P.take n))) := by
  have hl : (P.take n).length = n := by simp; omega
  have := chain_r (h := h) (al := al) (P := P.take n ++ [x]) h2 hk (by rw [List.length_append, hl]; rfl) hn
  rw [this, List.take_append_of_le_length (by rw [hl]; exact Nat.le_refl _), List.take_of_length_le (l := P.take n) (by rw [hl]; exact Nat.le_refl _)]
  congr 1
  rw [List.getD_eq_getElem?_getD, List.getElem?_append_right (by rw [hl]; exact Nat.le_refl _), hl, Nat.sub_self]; rfl
set_option maxHeartbeats 4000000 in
theorem main (F : Stop.Interp) (h : Pl.HF) (ok : h.ok) (i : Nat) (s : Nat) (Alv : Option Addr) (clv : Nat) (ll : List Nat) (Av : Option Addr) (cv : Nat) (P : List (List Nat)) (Axv : Option Addr) (cxv : Nat) (xl : List Nat) (w : World) (_hF : F.answers w.tape) (hH : Handle w) (_his : i < 18446744073709551616) (hss : s < 18446744073709551616) (hlv : BytesR w (.slice Alv ll.length clv) ll) (hv : HashesR w (.slice Av P.length cv) P) (hxv : BytesR w (.slice Axv xl.length cxv) xl) (_zll : ¬ (2147483647 : Int) < (ll.length : Int)) (gfP : Fits P) (HFP : Hid (∀ W, Below w.heap.size w W → Calls Tryf.prog 12 #[.slice Av P.length cv] W fun e w' => e = .returned (.bool true) ∧ W = w')) (_zxl : ¬ (2147483647 : Int) < (xl.length : Int)) (hlt : i < s) (h2 : 2 ≤ s) (gll : ll.length = 2) (gxl : xl.length = 2) (h0P : 0 < P.length) (_ghP : P.length = 0 ∨ IsLeaves P) (HSP : Hid (∀ W, Below w.heap.size w W → Calls Tryf.prog 13 #[.slice Av P.length cv] W fun e w' => e = .returned (.bool true) ∧ W = w')) :
    Calls Tryf.prog 11 #[hashV h, .int .u64 (i : Int), .int .u64 (s : Int), .slice Alv ll.length clv, .slice Av P.length cv, .slice Axv xl.length cxv] w fun e w' => e = .returned (.bool true) ∧ Below w.heap.size w w' := by
  have HB := Lib.hid (fun C => (Below.refl w.heap.size w).alloc (Nat.le_refl _) (.cells C 24))
  have HPr := Lib.hid (fun (W : World) (hb : Below w.heap.size w W) => proves_c W (hH.below hb))
  have HRt := Lib.hid (fun (W : World) (hb : Below w.heap.size w W) => rootOf_c h ok P.length i s _ _ ll P W rfl (by have := gfP.1; omega) hlt hss (hlv.below hb) (hv.below hb))
  have hok := Pl.rootOf_ok (h := h) (leaf := ll) (P := P) hlt
  have hd1 : decide (s ≤ i) = false := decide_eq_false (by omega)
  have hd2 : ((P.length : Int) == 0) = false := by simp; intro e; rw [e] at h0P; simp at h0P
  have hd3 : decide (s < 2) = false := decide_eq_false (by omega)
  have hg : ¬ (s : Int) ≤ (i : Int) := by omega
  have hg2 : ¬ (s : Int) < 2 := by omega
  have hg3 : ¬ (P.length : Int) = 0 := by omega
  by_cases hl : P.length = (Pl.dirs i s).length
  case neg =>
    have hR2 : (Pl.rootOf h ll P.length i s P).2 = false := by rw [hok]; exact decide_eq_false hl
    simp only [gll, gxl] at HRt ⊢
    generalize Pl.rootOf h ll P.length i s P = R at *
    obtain ⟨R1, R2⟩ := R
    simp only [] at hR2
    subst hR2
    clear hok _hF hH hlv hv hxv gfP ok _ghP _zll _zxl hl gll gxl hlt _his hss h2 h0P
    generalize P.length = np at *
    obtain ⟨Ah, Bh, Ch⟩ := h
    unfold hashV at HRt ⊢
    simp only [] at HRt ⊢
    go_enter Tryf.func11, Tryf.ntmps11
    go_wp2_with fail
    refine (HFP.out _ (HB.out _)).mono ?_; rintro e w' ⟨rfl, rfl⟩
    go_wp2_with fail
    refine (HSP.out _ (HB.out _)).mono ?_; rintro e w' ⟨rfl, rfl⟩
    go_wp2_with fail
    refine (HRt.out _ (HB.out _)).mono ?_; rintro e w1 ⟨v1, rfl, hv1, hb1⟩
    have B1 := keep1 (HB.out _) hb1
    obtain ⟨A1, n1, k1, rfl⟩ := hv1.form
    clear hb1 hv1
    go_wp2_with fail
    refine (HPr.out _ B1).mono ?_; rintro e w2 ⟨rfl, hb2⟩
    have B2 := keep1 B1 hb2
    clear hb2
    go_wp2_with fail
    go_ret
    exact ⟨by first | rfl | (simp <;> omega), B2⟩
  have hR2 : (Pl.rootOf h ll P.length i s P).2 = true := by rw [hok]; exact decide_eq_true hl
  obtain ⟨n, hn⟩ : ∃ n, P.length = n + 1 := ⟨P.length - 1, by omega⟩
  have hle2 : P.length ≤ 2147483647 := gfP.1
  obtain ⟨s1, s2⟩ := Pl.split_spec h2
  have s3 := Pl.split_pos s
  have HS := Lib.hid (fun W => split_c s h2 hss W)
  obtain ⟨A', cap', e', hcap, hby, hat⟩ := id hv
  injection e' with e1 e2 e3
  subst e1 e3
  obtain ⟨g, o, rfl, hat2⟩ := hat h0P
  clear hat hat2 e2
  have hH0 : HashesR w (.slice (some ⟨g, o, none⟩) n cv) (P.take n) := by
    have := hv.head (k := n) (by omega)
    rwa [if_neg (by omega), show (some (⟨g, o, none⟩ : Addr)).map (·.add 0) = some ⟨g, o, none⟩ by simp [add_plain3]] at this
  have r1 : ∀ W, (Instr.slice 27 (.slice (some ⟨g, o, none⟩) P.length cv) none (some (.int .i64 (n : Int))) none).run Tryf.prog W = .ok (.slice (some ⟨g, o, none⟩) n cv) W := fun W => by
    have := hashes_head (some ⟨g, o, none⟩) P.length cv n (by omega) W
    rwa [if_neg (by omega), show (some (⟨g, o, none⟩ : Addr)).map (·.add 0) = some ⟨g, o, none⟩ by simp [add_plain3]] at this
  have HT := Lib.hid (fun (W : World) (hb : Below w.heap.size w W) => hH0.below hb)
  have HX := Lib.hid (fun (W : World) (hb : Below w.heap.size w W) => hxv.below hb)
  have HLV := Lib.hid (fun (W : World) (hb : Below w.heap.size w W) => hlv.below hb)
  have HXlt := Lib.hid (fun (A : Addr) (k c : Nat) (e : Value.slice Axv xl.length cxv = .slice (some A) k c) => by
    have h1 := hxv
    rw [e] at h1
    exact h1.lt (by omega))
  have HH0 := Lib.hid hH0
  have hPl : (P.take n).length = n := by simp; omega
  have HC := Lib.hid (fun (u1 u2 : Value) (l1 l2 : List Nat) (W : World) (a1 : BytesR W u1 l1) (a2 : BytesR W u2 l2) => children_c h ok u1 u2 l1 l2 W a1 a2)
  have hfx : Fits (P.take n) := ⟨by omega, fun x hx => gfP.2 x (List.mem_of_mem_take hx)⟩
  have hfy : Fits (P.take n ++ [xl]) := ⟨by simp; omega, fun x hx => by
    rcases List.mem_append.1 hx with hx | hx
    · exact hfx.2 x hx
    · rw [List.mem_singleton.1 hx, gxl]; decide⟩
  have e1 : IntKind.i64.wrap ((P.length : Int) - 1) = (n : Int) := by rw [IntWalk.i64_in _ (by omega)]; omega
  have hn2 : (n : Int) ≤ (cv : Int) := by omega
  have HR2 := fun (W : World) (u : Value) (hb : Below w.heap.size w W) (hu : HashesR W u (P.take n ++ [xl])) => rootI_ok h ok i s hlt hss _ u ll (P.take n ++ [xl]) W gll (hlv.below hb) hu (by rw [← hl, List.length_append, hPl, hn]; rfl) hfy
  have hHn : (P.take n).length ≤ 2147483647 := by omega
  have hXtwo : xl.length = 2 := gxl
  simp only [gll, gxl] at HRt HX HXlt HR2 ⊢
  generalize hRR : Pl.rootOf h ll P.length i s P = R at *
  obtain ⟨Ra, Rb⟩ := R
  simp only [] at hR2
  subst hR2
  clear hRR hok
  by_cases hk : i < Pl.split s
  · have hd' : n = (Pl.dirs i (Pl.split s)).length := by rw [Pl.dirs_l h2 hk] at hl; simp at hl; omega
    have HR1 := Lib.hid (fun (W : World) (hb : Below w.heap.size w W) => rootI_ok h ok i (Pl.split s) (by omega) (by omega) _ _ ll (P.take n) W gll (HLV.out W hb) (HT.out W hb) (by omega) hfx)
    rw [chain_two_l h2 hk hn hd'] at HR2
    have HR2 := Lib.hid HR2
    simp only [gll] at HR1
    have hk1 : ¬ ((Pl.split s : Nat) : Int) ≤ (i : Int) := by omega
    generalize Pl.chain h ll ((Pl.dirs i (Pl.split s)).zip (P.take n)) = R1 at *
    generalize hTT : P.take n = Tn at *
    clear hTT
    generalize Pl.split s = k at *
    clear _hF hH hlv hv hxv gfP ok _ghP _zll _zxl hl gll gxl hlt _his hss h2 h0P hd' hk s1 s2 s3 hby hH0 hfx hfy hPl hle2
    generalize P.length = np at *
    clear hcap hn
    obtain ⟨Ah, Bh, Ch⟩ := h
    unfold hashV at HRt HR1 HR2 HC ⊢
    simp only [] at HRt HR1 HR2 HC ⊢
    go_enter Tryf.func11, Tryf.ntmps11
    go_wp2_with fail
    refine (HFP.out _ (HB.out _)).mono ?_; rintro e w' ⟨rfl, rfl⟩
    go_wp2_with fail
    refine (HSP.out _ (HB.out _)).mono ?_; rintro e w' ⟨rfl, rfl⟩
    go_wp2_with fail
    refine (HRt.out _ (HB.out _)).mono ?_; rintro e w1 ⟨v1, rfl, hv1, hb1⟩
    have B1 := keep1 (HB.out _) hb1
    have K1 : Blk w1 w.heap.size 24 #[.int .u32 (Ah : Int), .int .u32 (Bh : Int), .int .u32 (Ch : Int)] := (Blk.new w _ _).below' hb1
    obtain ⟨c1, c2, c3, _⟩ := K1.three
    obtain ⟨A1, n1, k1, rfl⟩ := hv1.form
    clear hb1 hv1 K1 HRt
    go_wp2_with fail
    refine (HS.out _).mono ?_; rintro e w' ⟨rfl, rfl⟩
    go_wp2_with fail
    have S0 : S1 w (.int .u32 (Ah : Int)) (.int .u32 (Bh : Int)) (.int .u32 (Ch : Int)) w1.drew := ⟨c1, c2, c3, B1.drew⟩
    clear c1 c2 c3 B1
    go_region_held_law (fun w' => w'.cell? ⟨w.heap.size, 0, none⟩ = some (.int .u32 (Ah : Int)) ∧ w'.cell? ⟨w.heap.size, 1, none⟩ = some (.int .u32 (Bh : Int)) ∧ w'.cell? ⟨w.heap.size, 2, none⟩ = some (.int .u32 (Ch : Int)) ∧ Below w.heap.size w w')
      (first | assumption | exact S0 | exact keepS1 hbr1 (by assumption))
      (first
        | (go_at_call 22; refine (HR1.out _ (show S1 w (.int .u32 (Ah : Int)) (.int .u32 (Bh : Int)) (.int .u32 (Ch : Int)) _ by assumption).2.2.2).mono ?_; rintro e w' ⟨u1, rfl, hu1, hbr1⟩))
    all_goals
      have hs1 := (show S1 w (.int .u32 (Ah : Int)) (.int .u32 (Bh : Int)) (.int .u32 (Ch : Int)) w' by assumption)
      obtain ⟨d1, d2, d3, B2⟩ := hs1
      have HU1 := Lib.hid hu1
      obtain ⟨Au, nu, cu, rfl⟩ := hu1.form
      have hlt1 : w.heap.size < w'.heap.size := World.block_lt_of_cell? w' _ d1
      have S00 : S2 w w' (.int .u32 (Ah : Int)) (.int .u32 (Bh : Int)) (.int .u32 (Ch : Int)) w'.drew := ⟨d1, d2, d3, (Below.refl _ _).drew⟩
      have B2h := Lib.hid B2
      clear hu1 hbr1 d1 d2 d3 B2 S0 HR1
      go_wp2_with fail
      generalize w' = wA at *
      have hle1 := Nat.le_of_lt hlt1
      go_region_held_law (fun w' => w'.cell? ⟨w.heap.size, 0, none⟩ = some (.int .u32 (Ah : Int)) ∧ w'.cell? ⟨w.heap.size, 1, none⟩ = some (.int .u32 (Bh : Int)) ∧ w'.cell? ⟨w.heap.size, 2, none⟩ = some (.int .u32 (Ch : Int)) ∧ Below wA.heap.size wA w')
        (first | assumption | exact S00 | exact keepS2 hlt1 hb5 (by assumption) | exact keepS2 hlt1 hb6 (by assumption) | exact keepS2c hlt1 hbr2 (by assumption) | exact keepS2a hlt1 _ (by assumption))
        (first
          | (go_at_call 22; refine (HR2.out _ _ (B2h.out.trans ((show S2 w wA (.int .u32 (Ah : Int)) (.int .u32 (Bh : Int)) (.int .u32 (Ch : Int)) _ by assumption).2.2.2.mono hle1)) hB6.hashes).mono ?_; rintro e w' ⟨u2, rfl, hu2, hbr2⟩)
          | (refine step_append_built rfl 115 rfl (.tmp 112) (.tmp 114) rfl wA.heap.size _ Tn (by first | exact hB5 | exact hB5.below ((Below.refl _ _).alloc (Nat.le_refl _) _)) rfl _ (.slice Axv 2 cxv) xl rfl (by first | (simp; done) | exact (hk5 _ _ (by simp <;> omega) (by simp [Value.ownBlock] <;> omega)).trans (by simp))
              (HX.out _ (B2h.out.trans ((show S2 w wA (.int .u32 (Ah : Int)) (.int .u32 (Bh : Int)) (.int .u32 (Ch : Int)) _ by assumption).2.2.2.mono hle1)))
              (fun _ g7 hg7 => fun A k c e => by
                have h7 := HXlt.out A k c e
                obtain ⟨us7, ho7, _⟩ := hB5
                have h8 := (ho7.lt g7 hg7).1
                omega) hHn (show S2 w wA (.int .u32 (Ah : Int)) (.int .u32 (Bh : Int)) (.int .u32 (Ch : Int)) _ by assumption).2.2.2.size ?_; intro g6 cap6 w6 hB6 hb6)
          | (refine step_append_hashes (w0 := w) rfl 112 rfl (.tmp 106) (.tmp 111) rfl wA.heap.size (.slice (some ⟨_, 0, none⟩) 0 0) (by first | exact lit_nil (by first | rfl | (simp; done)) (by omega) | exact lit_nil2 (by first | rfl | (simp; done)) (by omega)) rfl g o n cv Tn rfl HH0.out
              (B2h.out.trans ((show S2 w wA (.int .u32 (Ah : Int)) (.int .u32 (Bh : Int)) (.int .u32 (Ch : Int)) _ by assumption).2.2.2.mono hle1)) hle1 hHn (show S2 w wA (.int .u32 (Ah : Int)) (.int .u32 (Bh : Int)) (.int .u32 (Ch : Int)) _ by assumption).2.2.2.size ?_; intro A5 cap5 w5 hB5 hb5 hk5))
      all_goals
        have hs2 := (show S2 w wA (.int .u32 (Ah : Int)) (.int .u32 (Bh : Int)) (.int .u32 (Ch : Int)) w' by assumption)
        obtain ⟨d1, d2, d3, B3⟩ := hs2
        have B3w := B2h.out.trans (B3.mono hle1)
        have HU2 := Lib.hid hu2
        obtain ⟨Av, nv, cv2, rfl⟩ := hu2.form
        have U1 := HU1.out.below B3
        have X1 := HX.out _ B3w
        clear hu2 hbr2 hb5 hb6 hk5 hB5 hB6 S00 HR2
        go_wp2_with fail
        refine (HC.out _ _ _ _ _ U1 X1).mono ?_; rintro e w7 ⟨u7, rfl, hu7, hb7⟩
        have B7 := keep1 B3w hb7
        obtain ⟨A7, n7, c7, rfl⟩ := id hu7.form
        have d1' := (hb7.cell (World.block_lt_of_cell? w' _ d1)).trans d1
        have d2' := (hb7.cell (World.block_lt_of_cell? w' _ d2)).trans d2
        have d3' := (hb7.cell (World.block_lt_of_cell? w' _ d3)).trans d3
        have z1 := (HU2.out.below hb7).str
        have z2 := hu7.str
        clear hb7 hu7 d1 d2 d3
        go_wp2_with fail
        go_ret
        exact ⟨by first | rfl | (simp <;> omega), B7⟩
  · have hd' : n = (Pl.dirs (i - Pl.split s) (s - Pl.split s)).length := by rw [Pl.dirs_r h2 hk] at hl; simp at hl; omega
    have HR1 := Lib.hid (fun (W : World) (hb : Below w.heap.size w W) => rootI_ok h ok (i - Pl.split s) (s - Pl.split s) (by omega) (by omega) _ _ ll (P.take n) W gll (HLV.out W hb) (HT.out W hb) (by omega) hfx)
    rw [chain_two_r h2 hk hn hd'] at HR2
    have HR2 := Lib.hid HR2
    simp only [gll] at HR1
    have hk1 : ((Pl.split s : Nat) : Int) ≤ (i : Int) := by omega
    have w2 : IntKind.u64.wrap ((i : Int) - ((Pl.split s : Nat) : Int)) = ((i - Pl.split s : Nat) : Int) := by rw [IntKind.wrap_u64]; omega
    have w3 : IntKind.u64.wrap ((s : Int) - ((Pl.split s : Nat) : Int)) = ((s - Pl.split s : Nat) : Int) := by rw [IntKind.wrap_u64]; omega
    generalize Pl.chain h ll ((Pl.dirs (i - Pl.split s) (s - Pl.split s)).zip (P.take n)) = R1 at *
    generalize hTT : P.take n = Tn at *
    clear hTT
    generalize i - Pl.split s = i2 at *
    generalize s - Pl.split s = t2 at *
    generalize Pl.split s = k at *
    clear _hF hH hlv hv hxv gfP ok _ghP _zll _zxl hl gll gxl hlt _his hss h2 h0P hd' hk s1 s2 s3 hby hH0 hfx hfy hPl hle2
    generalize P.length = np at *
    clear hcap hn
    obtain ⟨Ah, Bh, Ch⟩ := h
    unfold hashV at HRt HR1 HR2 HC ⊢
    simp only [] at HRt HR1 HR2 HC ⊢
    go_enter Tryf.func11, Tryf.ntmps11
    go_wp2_with fail
    refine (HFP.out _ (HB.out _)).mono ?_; rintro e w' ⟨rfl, rfl⟩
    go_wp2_with fail
    refine (HSP.out _ (HB.out _)).mono ?_; rintro e w' ⟨rfl, rfl⟩
    go_wp2_with fail
    refine (HRt.out _ (HB.out _)).mono ?_; rintro e w1 ⟨v1, rfl, hv1, hb1⟩
    have B1 := keep1 (HB.out _) hb1
    have K1 : Blk w1 w.heap.size 24 #[.int .u32 (Ah : Int), .int .u32 (Bh : Int), .int .u32 (Ch : Int)] := (Blk.new w _ _).below' hb1
    obtain ⟨c1, c2, c3, _⟩ := K1.three
    obtain ⟨A1, n1, k1, rfl⟩ := hv1.form
    clear hb1 hv1 K1 HRt
    go_wp2_with fail
    refine (HS.out _).mono ?_; rintro e w' ⟨rfl, rfl⟩
    go_wp2_with fail
    have S0 : S1 w (.int .u32 (Ah : Int)) (.int .u32 (Bh : Int)) (.int .u32 (Ch : Int)) w1.drew := ⟨c1, c2, c3, B1.drew⟩
    clear c1 c2 c3 B1
    go_region_held_law (fun w' => w'.cell? ⟨w.heap.size, 0, none⟩ = some (.int .u32 (Ah : Int)) ∧ w'.cell? ⟨w.heap.size, 1, none⟩ = some (.int .u32 (Bh : Int)) ∧ w'.cell? ⟨w.heap.size, 2, none⟩ = some (.int .u32 (Ch : Int)) ∧ Below w.heap.size w w')
      (first | assumption | exact S0 | exact keepS1 hbr1 (by assumption))
      (first
        | (go_at_call 22; refine (HR1.out _ (show S1 w (.int .u32 (Ah : Int)) (.int .u32 (Bh : Int)) (.int .u32 (Ch : Int)) _ by assumption).2.2.2).mono ?_; rintro e w' ⟨u1, rfl, hu1, hbr1⟩))
    all_goals
      have hs1 := (show S1 w (.int .u32 (Ah : Int)) (.int .u32 (Bh : Int)) (.int .u32 (Ch : Int)) w' by assumption)
      obtain ⟨d1, d2, d3, B2⟩ := hs1
      have HU1 := Lib.hid hu1
      obtain ⟨Au, nu, cu, rfl⟩ := hu1.form
      have hlt1 : w.heap.size < w'.heap.size := World.block_lt_of_cell? w' _ d1
      have S00 : S2 w w' (.int .u32 (Ah : Int)) (.int .u32 (Bh : Int)) (.int .u32 (Ch : Int)) w'.drew := ⟨d1, d2, d3, (Below.refl _ _).drew⟩
      have B2h := Lib.hid B2
      clear hu1 hbr1 d1 d2 d3 B2 S0 HR1
      go_wp2_with fail
      generalize w' = wA at *
      have hle1 := Nat.le_of_lt hlt1
      go_region_held_law (fun w' => w'.cell? ⟨w.heap.size, 0, none⟩ = some (.int .u32 (Ah : Int)) ∧ w'.cell? ⟨w.heap.size, 1, none⟩ = some (.int .u32 (Bh : Int)) ∧ w'.cell? ⟨w.heap.size, 2, none⟩ = some (.int .u32 (Ch : Int)) ∧ Below wA.heap.size wA w')
        (first | assumption | exact S00 | exact keepS2 hlt1 hb5 (by assumption) | exact keepS2 hlt1 hb6 (by assumption) | exact keepS2c hlt1 hbr2 (by assumption) | exact keepS2a hlt1 _ (by assumption))
        (first
          | (go_at_call 22; refine (HR2.out _ _ (B2h.out.trans ((show S2 w wA (.int .u32 (Ah : Int)) (.int .u32 (Bh : Int)) (.int .u32 (Ch : Int)) _ by assumption).2.2.2.mono hle1)) hB6.hashes).mono ?_; rintro e w' ⟨u2, rfl, hu2, hbr2⟩)
          | (refine step_append_built rfl 115 rfl (.tmp 112) (.tmp 114) rfl wA.heap.size _ Tn (by first | exact hB5 | exact hB5.below ((Below.refl _ _).alloc (Nat.le_refl _) _)) rfl _ (.slice Axv 2 cxv) xl rfl (by first | (simp; done) | exact (hk5 _ _ (by simp <;> omega) (by simp [Value.ownBlock] <;> omega)).trans (by simp))
              (HX.out _ (B2h.out.trans ((show S2 w wA (.int .u32 (Ah : Int)) (.int .u32 (Bh : Int)) (.int .u32 (Ch : Int)) _ by assumption).2.2.2.mono hle1)))
              (fun _ g7 hg7 => fun A k c e => by
                have h7 := HXlt.out A k c e
                obtain ⟨us7, ho7, _⟩ := hB5
                have h8 := (ho7.lt g7 hg7).1
                omega) hHn (show S2 w wA (.int .u32 (Ah : Int)) (.int .u32 (Bh : Int)) (.int .u32 (Ch : Int)) _ by assumption).2.2.2.size ?_; intro g6 cap6 w6 hB6 hb6)
          | (refine step_append_hashes (w0 := w) rfl 112 rfl (.tmp 106) (.tmp 111) rfl wA.heap.size (.slice (some ⟨_, 0, none⟩) 0 0) (by first | exact lit_nil (by first | rfl | (simp; done)) (by omega) | exact lit_nil2 (by first | rfl | (simp; done)) (by omega)) rfl g o n cv Tn rfl HH0.out
              (B2h.out.trans ((show S2 w wA (.int .u32 (Ah : Int)) (.int .u32 (Bh : Int)) (.int .u32 (Ch : Int)) _ by assumption).2.2.2.mono hle1)) hle1 hHn (show S2 w wA (.int .u32 (Ah : Int)) (.int .u32 (Bh : Int)) (.int .u32 (Ch : Int)) _ by assumption).2.2.2.size ?_; intro A5 cap5 w5 hB5 hb5 hk5))
      all_goals
        have hs2 := (show S2 w wA (.int .u32 (Ah : Int)) (.int .u32 (Bh : Int)) (.int .u32 (Ch : Int)) w' by assumption)
        obtain ⟨d1, d2, d3, B3⟩ := hs2
        have B3w := B2h.out.trans (B3.mono hle1)
        have HU2 := Lib.hid hu2
        obtain ⟨Av, nv, cv2, rfl⟩ := hu2.form
        have U1 := HU1.out.below B3
        have X1 := HX.out _ B3w
        clear hu2 hbr2 hb5 hb6 hk5 hB5 hB6 S00 HR2
        go_wp2_with fail
        refine (HC.out _ _ _ _ _ U1 X1).mono ?_; rintro e w7 ⟨u7, rfl, hu7, hb7⟩
        have B7 := keep1 B3w hb7
        obtain ⟨A7, n7, c7, rfl⟩ := id hu7.form
        have d1' := (hb7.cell (World.block_lt_of_cell? w' _ d1)).trans d1
        have d2' := (hb7.cell (World.block_lt_of_cell? w' _ d2)).trans d2
        have d3' := (hb7.cell (World.block_lt_of_cell? w' _ d3)).trans d3
        have U1' := U1.below hb7
        have X1' := X1.below hb7
        have HU2' := Lib.hid (HU2.out.below hb7)
        clear hb7 hu7 d1 d2 d3
        go_wp2_with fail
        refine (HC.out _ _ _ _ _ X1' U1').mono ?_; rintro e w8 ⟨u8, rfl, hu8, hb8⟩
        have B8 := keep1 B7 hb8
        have z1 := (HU2'.out.below hb8).str
        have z2 := hu8.str
        obtain ⟨A8, n8, c8, rfl⟩ := hu8.form
        clear hb8 hu8
        go_wp2_with fail
        go_ret
        exact ⟨by first | rfl | (simp <;> omega), B8⟩
set_option maxHeartbeats 2000000 in
theorem walk (F : Stop.Interp) (w : World) (hF : F.answers w.tape) (h : Pl.HF) (ok : h.ok) (a1 : Int) (w1 : 0 ≤ a1 ∧ a1 < 18446744073709551616) (a2 : Int) (w2 : 0 ≤ a2 ∧ a2 < 18446744073709551616) (lv : Value) (ll : List Nat) (hlv : BytesR w lv ll) (v : Value) (P : List (List Nat)) (hv : HashesR w v P) (xv : Value) (xl : List Nat) (hxv : BytesR w xv xl) (hT : LaidIsH w) :
    Calls Tryf.prog 11 #[hashV h, .int .u64 a1, .int .u64 a2, lv, v, xv] w fun e w' => e = .returned (.bool true) ∧ Below w.heap.size w w' := by
  obtain ⟨i, rfl⟩ := Int.eq_ofNat_of_zero_le w1.1
  have his : i < 18446744073709551616 := by omega
  obtain ⟨s, rfl⟩ := Int.eq_ofNat_of_zero_le w2.1
  have hss : s < 18446744073709551616 := by omega
  have HB := Lib.hid (fun C => (Below.refl w.heap.size w).alloc (Nat.le_refl _) (.cells C 24))
  obtain ⟨Alv, clv, elv, h9lv⟩ := id hlv
  clear h9lv
  obtain ⟨Av, cv, ev, h9v⟩ := id hv
  clear h9v
  obtain ⟨Axv, cxv, exv, h9xv⟩ := id hxv
  clear h9xv
  subst elv
  subst ev
  subst exv
  by_cases g0 : (2147483647 : Int) < (ll.length : Int)
  case pos =>
    obtain ⟨Ah, Bh, Ch⟩ := h
    unfold hashV
    clear hT hF his w1 hss w2 hlv hv hxv ok
    go_enter Tryf.func11, Tryf.ntmps11
    go_wp2_with fail
    go_ret
    exact ⟨rfl, HB.out _⟩
  by_cases g1 : ¬ Fits P
  case pos =>
    have HFx : Hid (∀ W, Below w.heap.size w W → Calls Tryf.prog 12 #[.slice Av P.length cv] W fun e w' => e = .returned (.bool false) ∧ W = w') := Lib.hid (fun W hb => (fits1_c (.slice Av P.length cv) P W (hv.below hb)).mono fun _ _ r => r.no g1)
    obtain ⟨Ah, Bh, Ch⟩ := h
    unfold hashV
    clear hT hF his w1 hss w2 hlv hv hxv g1 ok
    go_enter Tryf.func11, Tryf.ntmps11
    go_wp2_with fail
    refine (HFx.out _ (HB.out _)).mono ?_; rintro e w' ⟨rfl, rfl⟩
    go_wp2_with fail
    go_ret
    exact ⟨rfl, HB.out _⟩
  have gfP : Fits P := Classical.not_not.1 g1
  clear g1
  have HFP : Hid (∀ W, Below w.heap.size w W → Calls Tryf.prog 12 #[.slice Av P.length cv] W fun e w' => e = .returned (.bool true) ∧ W = w') := Lib.hid (fun W hb => (fits1_c (.slice Av P.length cv) P W (hv.below hb)).mono fun _ _ r => r.yes gfP)
  by_cases g2 : (2147483647 : Int) < (xl.length : Int)
  case pos =>
    obtain ⟨Ah, Bh, Ch⟩ := h
    unfold hashV
    clear hT hF his w1 hss w2 hlv hv hxv gfP ok
    go_enter Tryf.func11, Tryf.ntmps11
    go_wp2_with fail
    refine (HFP.out _ (HB.out _)).mono ?_; rintro e w' ⟨rfl, rfl⟩
    go_wp2_with fail
    go_ret
    exact ⟨rfl, HB.out _⟩
  by_cases g3 : (s : Int) ≤ (i : Int)
  case pos =>
    obtain ⟨Ah, Bh, Ch⟩ := h
    unfold hashV
    clear hT hF his w1 hss w2 hlv hv hxv gfP ok
    go_enter Tryf.func11, Tryf.ntmps11
    go_wp2_with fail
    refine (HFP.out _ (HB.out _)).mono ?_; rintro e w' ⟨rfl, rfl⟩
    go_wp2_with fail
    go_ret
    exact ⟨rfl, HB.out _⟩
  by_cases g4 : (s : Int) < 2
  case pos =>
    obtain ⟨Ah, Bh, Ch⟩ := h
    unfold hashV
    clear hT hF his w1 hss w2 hlv hv hxv gfP ok
    go_enter Tryf.func11, Tryf.ntmps11
    go_wp2_with fail
    refine (HFP.out _ (HB.out _)).mono ?_; rintro e w' ⟨rfl, rfl⟩
    go_wp2_with fail
    go_ret
    exact ⟨rfl, HB.out _⟩
  by_cases g5 : ¬ (ll.length : Int) = 2
  case pos =>
    obtain ⟨Ah, Bh, Ch⟩ := h
    unfold hashV
    clear hT hF his w1 hss w2 hlv hv hxv gfP ok
    go_enter Tryf.func11, Tryf.ntmps11
    go_wp2_with fail
    refine (HFP.out _ (HB.out _)).mono ?_; rintro e w' ⟨rfl, rfl⟩
    go_wp2_with fail
    go_ret
    exact ⟨rfl, HB.out _⟩
  have g5' : ll.length = 2 := by have := Classical.not_not.1 g5; omega
  clear g5
  have g5 : (ll.length : Int) = 2 := by omega
  by_cases g6 : ¬ (xl.length : Int) = 2
  case pos =>
    obtain ⟨Ah, Bh, Ch⟩ := h
    unfold hashV
    clear hT hF his w1 hss w2 hlv hv hxv gfP ok
    go_enter Tryf.func11, Tryf.ntmps11
    go_wp2_with fail
    refine (HFP.out _ (HB.out _)).mono ?_; rintro e w' ⟨rfl, rfl⟩
    go_wp2_with fail
    go_ret
    exact ⟨rfl, HB.out _⟩
  have g6' : xl.length = 2 := by have := Classical.not_not.1 g6; omega
  clear g6
  have g6 : (xl.length : Int) = 2 := by omega
  by_cases g7 : (P.length : Int) = 0
  case pos =>
    obtain ⟨Ah, Bh, Ch⟩ := h
    unfold hashV
    clear hT hF his w1 hss w2 hlv hv hxv gfP ok
    go_enter Tryf.func11, Tryf.ntmps11
    go_wp2_with fail
    refine (HFP.out _ (HB.out _)).mono ?_; rintro e w' ⟨rfl, rfl⟩
    go_wp2_with fail
    go_ret
    exact ⟨rfl, HB.out _⟩
  have g7b : ((P.length : Int) == 0) = false := beq_eq_false_iff_ne.2 g7
  by_cases g8 : ¬ (P.length = 0 ∨ IsLeaves P)
  case pos =>
    have HSx : Hid (∀ W, Below w.heap.size w W → Calls Tryf.prog 13 #[.slice Av P.length cv] W fun e w' => e = .returned (.bool false) ∧ W = w') := Lib.hid (fun W hb => (hashes_s (.slice Av P.length cv) P W (hv.below hb) gfP.1).mono fun _ _ r => r.no g8)
    obtain ⟨Ah, Bh, Ch⟩ := h
    unfold hashV
    clear hT hF his w1 hss w2 hlv hv hxv gfP g8 ok
    go_enter Tryf.func11, Tryf.ntmps11
    go_wp2_with fail
    refine (HFP.out _ (HB.out _)).mono ?_; rintro e w' ⟨rfl, rfl⟩
    go_wp2_with fail
    refine (HSx.out _ (HB.out _)).mono ?_; rintro e w' ⟨rfl, rfl⟩
    go_wp2_with fail
    go_ret
    exact ⟨rfl, HB.out _⟩
  have ghP : P.length = 0 ∨ IsLeaves P := Classical.not_not.1 g8
  clear g8
  have HSP : Hid (∀ W, Below w.heap.size w W → Calls Tryf.prog 13 #[.slice Av P.length cv] W fun e w' => e = .returned (.bool true) ∧ W = w') := Lib.hid (fun W hb => (hashes_s (.slice Av P.length cv) P W (hv.below hb) gfP.1).mono fun _ _ r => r.yes ghP)
  exact main F h ok i s Alv clv ll Av cv P Axv cxv xl w hF hT.handle his hss hlv hv hxv g0 gfP HFP g2 (by omega) (by omega) g5' g6' (by omega) ghP HSP
theorem reads (os : Os) {H : Type} (enc : TypeId × Value → H) : ∃ places, DataW.whole enc Tryf.prog ((laidWorldH os).forCall (fun _ _ => 0) ⟨#[], #[.agg #[.int .u32 0, .int .u32 0, .int .u32 0], .int .u64 0, .int .u64 0, .slice none 0 0, .slice none 0 0, .slice none 0 0], []⟩).memory Tryf.f11.params.toList Rows.fnInclusionRootsSpec.vars false (#[.agg #[.int .u32 0, .int .u32 0, .int .u32 0], .int .u64 0, .int .u64 0, .slice none 0 0, .slice none 0 0, .slice none 0 0] : Array Value).toList 8 = some ([.agg [.lit (.int .u32 0), .lit (.int .u32 0), .lit (.int .u32 0)], .lit (.int .u64 0), .lit (.int .u64 0), .nil, .nil, .nil], [], places) :=
  ⟨[], by kernel_rfl⟩
set_option maxRecDepth 100000 in
theorem contract (F : Stop.Interp) (H : Type) (enc : TypeId × Value → H) (W : World) (base : Nat) (args : Array Value) (ds gs : List (DataW H)) (before : List MemPlace) (hF : F.told.answers W.tape)
    (hval0 : ∀ (j : Nat) t v, Tryf.f11.params[j]? = some t → args[j]? = some v → Value.okWide Tryf.prog W .any base t v)
    (hW : DataW.Whole enc Tryf.prog Tryf.f11.params.toList Rows.fnInclusionRootsSpec.vars false W args.toList ds gs before) (hL : laidMetH Tryf.prog Rows.fnInclusionRootsRow.laid W) :
    Calls Tryf.prog 11 args W fun e W' => ∃ v, e = .returned v ∧ ((OpenSpec.ofChange Rows.fnInclusionRootsSpec).at F.told).post enc Tryf.prog Tryf.f11 false true false false W args v W' := by
  have hval : ∀ (j : Nat) t v, Tryf.f11.params[j]? = some t → args[j]? = some v → Value.okWide Tryf.prog W .any base t v := hval0
  have hW' := hW
  obtain ⟨p, q, hA0, hV, rfl, hfz, hnd⟩ := hW
  have hA : DataW.TrodAll enc Tryf.prog W 0 (fun _ => true) true Tryf.f11.params.toList args.toList ds p := hA0
  rw [Tryf.params11] at hA hval
  obtain ⟨v0, vs0, d0, ds0, p0, q0, hargs, rfl, rfl, h0, r0⟩ := trodAll_cons hA
  obtain ⟨v1, vs1, d1, ds1, p1, q1, rfl, rfl, rfl, h1, r1⟩ := trodAll_cons r0
  obtain ⟨v2, vs2, d2, ds2, p2, q2, rfl, rfl, rfl, h2, r2⟩ := trodAll_cons r1
  obtain ⟨v3, vs3, d3, ds3, p3, q3, rfl, rfl, rfl, h3, r3⟩ := trodAll_cons r2
  obtain ⟨v4, vs4, d4, ds4, p4, q4, rfl, rfl, rfl, h4, r4⟩ := trodAll_cons r3
  obtain ⟨v5, vs5, d5, ds5, p5, q5, rfl, rfl, rfl, h5, r5⟩ := trodAll_cons r4
  obtain ⟨rfl, rfl, rfl⟩ := trodAll_nil r5
  obtain rfl : args = #[v0, v1, v2, v3, v4, v5] := by cases args; simp_all
  obtain ⟨rfl, rfl⟩ := trodVars_none hV
  have k0 := h0
  have lt0 : ∀ x ∈ p0, x.block < W.heap.size := by obtain ⟨m, hm⟩ := k0; exact DataW.trod_lt m _ _ _ hm
  obtain ⟨hh0, rfl, w0⟩ := openHash (hval 0 24 v0 rfl rfl) h0
  have k1 := h1
  have lt1 : ∀ x ∈ p1, x.block < W.heap.size := by obtain ⟨m, hm⟩ := k1; exact DataW.trod_lt m _ _ _ hm
  obtain ⟨a1, rfl, hd1, hp1, w1⟩ := open_int Tryf.underlying25 (hval 1 25 v1 rfl rfl) h1
  have k2 := h2
  have lt2 : ∀ x ∈ p2, x.block < W.heap.size := by obtain ⟨m, hm⟩ := k2; exact DataW.trod_lt m _ _ _ hm
  obtain ⟨a2, rfl, hd2, hp2, w2⟩ := open_int Tryf.underlying25 (hval 2 25 v2 rfl rfl) h2
  have k3 := h3
  have lt3 : ∀ x ∈ p3, x.block < W.heap.size := by obtain ⟨m, hm⟩ := k3; exact DataW.trod_lt m _ _ _ hm
  obtain ⟨L3, w3⟩ := openBytes (hval 3 26 v3 rfl rfl) h3
  have k4 := h4
  have lt4 : ∀ x ∈ p4, x.block < W.heap.size := by obtain ⟨m, hm⟩ := k4; exact DataW.trod_lt m _ _ _ hm
  obtain ⟨L4, w4⟩ := openHashes (hval 4 27 v4 rfl rfl) h4
  have k5 := h5
  have lt5 : ∀ x ∈ p5, x.block < W.heap.size := by obtain ⟨m, hm⟩ := k5; exact DataW.trod_lt m _ _ _ hm
  obtain ⟨L5, w5⟩ := openBytes (hval 5 26 v5 rfl rfl) h5
  refine (walk F.told W hF hh0 w0 a1 (bound_u64 w1) a2 (bound_u64 w2) v3 L3 w3 v4 L4 w4 v5 L5 w5 (laidIsH_of hL)).mono fun e W' ⟨he, bel⟩ => ?_
  subst he
  exact ⟨_, rfl, _, _, _, [], _, [], hW', trodAll_mk1 (shut_bool Tryf.underlying4 _), (trodAll_cons_mk (Below.trod laidOut (by kernel_rfl) (of_decide_eq_true (by kernel_rfl)) k0 bel lt0) (trodAll_cons_mk (Below.trod laidOut (by kernel_rfl) (of_decide_eq_true (by kernel_rfl)) k1 bel lt1) (trodAll_cons_mk (Below.trod laidOut (by kernel_rfl) (of_decide_eq_true (by kernel_rfl)) k2 bel lt2) (trodAll_cons_mk (Below.trod laidOut (by kernel_rfl) (of_decide_eq_true (by kernel_rfl)) k3 bel lt3) (trodAll_cons_mk (Below.trod laidOut (by kernel_rfl) (of_decide_eq_true (by kernel_rfl)) k4 bel lt4) (trodAll_cons_mk (Below.trod laidOut (by kernel_rfl) (of_decide_eq_true (by kernel_rfl)) k5 bel lt5) trodAll_mk0)))))), rfl, bel.frame _, fun h => by cases h⟩
set_option maxRecDepth 100000 in
theorem lifted (os : Os) (started : os.Started) (H : Type) (enc : TypeId × Value → H) :
    ReturnsInTold none {} Tryf.checked os 11 .any Input.okWide ((OpenSpec.ofChange Rows.fnInclusionRootsSpec).preRow enc Tryf.prog Tryf.f11 Rows.fnInclusionRootsRow.domain false Rows.fnInclusionRootsRow.laid) (fun F => ((OpenSpec.ofChange Rows.fnInclusionRootsSpec).at F).post enc Tryf.prog Tryf.f11 false true false false) (aloneAtReturn Tryf.prog) nothingAlways := by
  obtain ⟨places, hx⟩ := reads os enc
  refine returnsInTold_of_row (C := Tryf.checked) (s := OpenSpec.ofChange Rows.fnInclusionRootsSpec) mayEnter own started (by kernel_rfl) Tryf.func11
    (OpenSpec.witness_stopped_at (enc := enc) (C := Tryf.checked) false (laidWorldH os) #[.agg #[.int .u32 0, .int .u32 0, .int .u32 0], .int .u64 0, .int .u64 0, .slice none 0 0, .slice none 0 0, .slice none 0 0] rfl (by kernel_rfl) (by kernel_rfl) (by kernel_rfl)
      (OpenSpec.preRow_of_cond 8 hx (by kernel_rfl) (fun k hk => by cases hk) (by kernel_rfl) (laid_metH os #[.agg #[.int .u32 0, .int .u32 0, .int .u32 0], .int .u64 0, .int .u64 0, .slice none 0 0, .slice none 0 0, .slice none 0 0]))) ?_
  intro F W base args ds gs before _ hF hval hW _ _ _ hL _
  exact contract F H enc W base args ds gs before hF hval hW hL
theorem proved : Rows.FnInclusionRootsToldSaid :=
  Claim7.holds_of_told_tied_any_at .later 11 Tryf.f11 "fmt.errorf" [] [] _ _ _ _ _ (by kernel_rfl) rfl rfl rfl laidOut (by kernel_rfl) rfl ⟨rfl, rfl, rfl, rfl, rfl, rfl, rfl⟩ rfl rfl (by kernel_rfl) (by kernel_rfl) Tryf.func11 (by kernel_rfl)
    (of_decide_eq_true (by kernel_rfl)) (by unfold Func.isWrapper; first | (rw [if_pos (by decide +kernel)]; kernel_rfl) | (rw [if_neg (by decide +kernel)]; exact ⟨rfl, rfl⟩)) stopsAre.symm rfl stopKnobs.symm (by kernel_rfl)
    (by kernel_rfl) (by kernel_rfl) (by kernel_rfl) (by kernel_rfl) (by kernel_rfl) (by kernel_rfl) (by kernel_rfl) (by kernel_rfl) (by kernel_rfl) rfl (by kernel_rfl) rfl rfl
    rfl rfl
    rfl mainIs (by kernel_rfl) (by kernel_rfl) (by decide) (by kernel_rfl) fnInclusionRoots_row_tie
    (OpenClaim.moreEntering_of mayEnter (by kernel_rfl) (by kernel_rfl) (by kernel_rfl) (by kernel_rfl) (by kernel_rfl) (by kernel_rfl) (by kernel_rfl) liftsFinal.symm make)
    ⟨_, WideRow.started_initial, quiet _⟩
    (fun os started _ H enc _ => lifted os started H enc)
end Go.Proofs.YtklofjhmgoejiaaFmt.fnInclusionRoots
