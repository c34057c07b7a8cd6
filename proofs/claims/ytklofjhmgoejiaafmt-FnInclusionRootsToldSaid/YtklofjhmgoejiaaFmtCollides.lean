/- spec.Collides: two leaves that are proved at one place of one root show two pairs of one hash. -/
import Derived.Test.YtklofjhmgoejiaaFmtRootOf
import Derived.Deep.RegionHeldLaw
namespace Go.Proofs.YtklofjhmgoejiaaFmt
open Go.ChangeShapes Go.WideShapes Go.ChangeAt Go.RowKit
set_option maxRecDepth 20000
abbrev SQ (w : World) (x1 x2 x3 a b c d : Value) (la lb lc ld : List Nat) (w' : World) : Prop := w'.cell? ⟨w.heap.size, 0, none⟩ = some x1 ∧ w'.cell? ⟨w.heap.size, 1, none⟩ = some x2 ∧ w'.cell? ⟨w.heap.size, 2, none⟩ = some x3 ∧ BytesR w' a la ∧ BytesR w' b lb ∧ BytesR w' c lc ∧ BytesR w' d ld ∧ Below w.heap.size w w'
theorem keepQ {w W w' : World} {x1 x2 x3 a b c d : Value} {la lb lc ld : List Nat} (hb : Below W.heap.size W w') (h : SQ w x1 x2 x3 a b c d la lb lc ld W) : SQ w x1 x2 x3 a b c d la lb lc ld w' :=
  have up : ∀ {p : Addr} {v : Value}, W.cell? p = some v → w'.cell? p = some v := fun {p} {_} h => (hb.cell (World.block_lt_of_cell? W p h)).trans h
  ⟨up h.1, up h.2.1, up h.2.2.1, h.2.2.2.1.below hb, h.2.2.2.2.1.below hb, h.2.2.2.2.2.1.below hb, h.2.2.2.2.2.2.1.below hb, h.2.2.2.2.2.2.2.trans (hb.mono h.2.2.2.2.2.2.2.size)⟩
theorem keep1c {w W w' : World} (h : Below w.heap.size w W) (hb : Below W.heap.size W w') : Below w.heap.size w w' := h.trans (hb.mono h.size)
theorem chain_l {h : Pl.HF} {al : List Nat} {i s n : Nat} {P : List (List Nat)} (h2 : 2 ≤ s) (hk : i < Pl.split s) (hP : P.length = n + 1) (hn : n = (Pl.dirs i (Pl.split s)).length) : Pl.chain h al ((Pl.dirs i s).zip P) = h.hc (Pl.chain h al ((Pl.dirs i (Pl.split s)).zip (P.take n))) (P.getD n []) := by
  have hl : (P.take n).length = n := by simp; omega
  conv => lhs; rw [Pl.dirs_l h2 hk, Pl.snocD hP, Pl.zip_snoc (by rw [hl]; exact hn.symm), Pl.chain_snoc]
  rfl
theorem chain_r {h : Pl.HF} {al : List Nat} {i s n : Nat} {P : List (List Nat)} (h2 : 2 ≤ s) (hk : ¬ i < Pl.split s) (hP : P.length = n + 1) (hn : n = (Pl.dirs (i - Pl.split s) (s - Pl.split s)).length) : Pl.chain h al ((Pl.dirs i s).zip P) = h.hc (P.getD n []) (Pl.chain h al ((Pl.dirs (i - Pl.split s) (s - Pl.split s)).zip (P.take n))) := by
  have hl : (P.take n).length = n := by simp; omega
  conv => lhs; rw [Pl.dirs_r h2 hk, Pl.snocD hP, Pl.zip_snoc (by rw [hl]; exact hn.symm), Pl.chain_snoc]
  rfl
/-- What a call that tells the root of a part gives. -/
theorem rootOf_is (h : Pl.HF) (ok : h.ok) (n i s : Nat) (lv v : Value) (ll : List Nat) (P : List (List Nat)) (w : World) (hP : P.length = n) (hn : n ≤ 2147483647) (hi : i < s) (hs : s < 18446744073709551616) (hlv : BytesR w lv ll) (hv : HashesR w v P) (hd : n = (Pl.dirs i s).length) :
    Calls Tryf.prog 14 #[hashV h, .int .u64 (i : Int), .int .u64 (s : Int), lv, v] w (RetRootOf w (Pl.chain h ll ((Pl.dirs i s).zip P), true)) := by
  have h1 := rootOf_c h ok n i s lv v ll P w hP hn hi hs hlv hv
  have h2 := Pl.rootOf_spec h ll n i s P hP hi
  have e : Pl.rootOf h ll n i s P = (Pl.chain h ll ((Pl.dirs i s).zip P), true) := by
    rw [← h2.2 hd, ← (show (Pl.rootOf h ll n i s P).2 = true by rw [h2.1]; exact decide_eq_true hd)]
  rwa [e] at h1
set_option maxHeartbeats 4000000 in
theorem collides_c (h : Pl.HF) (ok : h.ok) : ∀ (n i s : Nat) (av v bv u : Value) (al bl : List Nat) (P Q : List (List Nat)) (w : World), P.length = n → Q.length = n → n ≤ 2147483647 → i < s → s < 18446744073709551616 → n = (Pl.dirs i s).length → al ≠ bl → Pl.chain h al ((Pl.dirs i s).zip P) = Pl.chain h bl ((Pl.dirs i s).zip Q) → BytesR w av al → BytesR w bv bl → HashesR w v P → HashesR w u Q →
    Calls Tryf.prog 20 #[hashV h, .int .u64 (i : Int), .int .u64 (s : Int), av, v, bv, u] w fun e w' => e = .returned (.bool true) ∧ Below w.heap.size w w' := by
  intro n
  induction n with
  | zero =>
    intro i s av v bv u al bl P Q w hP hQ hn hi hs hd hne hch
    exfalso
    have h0 : Pl.dirs i s = [] := List.eq_nil_of_length_eq_zero hd.symm
    rw [h0] at hch
    exact hne hch
  | succ n ih =>
    intro i s av v bv u al bl P Q w hP hQ hn hi hs hd hne hch hav hbv hv hu
    have h2 : 2 ≤ s := by
      rcases Nat.lt_or_ge s 2 with h | h
      · obtain rfl : s = 1 := by omega
        rw [Pl.dirs_one] at hd; simp at hd
      · exact h
    obtain ⟨s1, s2⟩ := Pl.split_spec h2
    have s3 := Pl.split_pos s
    have HS := Lib.hid (fun W => split_c s h2 hs W)
    have HB := Lib.hid (fun C => (Below.refl w.heap.size w).alloc (Nat.le_refl _) (.cells C 24))
    obtain ⟨A, cap, rfl, hcap, hc9⟩ := id hv
    obtain ⟨B, cbp, rfl, hcbp, hc8⟩ := id hu
    obtain ⟨g, o, A2, c2, n2, rfl, hcl, hlast⟩ := hv.last hP
    obtain ⟨g', o', A2', c2', n2', rfl, hcl', hlast'⟩ := hu.last hQ
    obtain ⟨Aa, na, ca, rfl⟩ := hav.form
    obtain ⟨Ab, nb, cb, rfl⟩ := hbv.form
    have hcl2 := Lib.hid (fun (W : World) (hb : Below w.heap.size w W) => (hb.cell (World.block_lt_of_cell? w _ hcl)).trans hcl)
    have hcl2' := Lib.hid (fun (W : World) (hb : Below w.heap.size w W) => (hb.cell (World.block_lt_of_cell? w _ hcl')).trans hcl')
    have HLast := Lib.hid (fun (W : World) (hb : Below w.heap.size w W) => hlast.below hb)
    have HLast' := Lib.hid (fun (W : World) (hb : Below w.heap.size w W) => hlast'.below hb)
    have r1 := fun W => hashes_head (some ⟨g, o, none⟩) P.length cap n (by omega) W
    have r2 := fun W => hashes_head (some ⟨g', o', none⟩) Q.length cbp n (by omega) W
    have HT := Lib.hid (fun (W : World) (hb : Below w.heap.size w W) => (hv.head (k := n) (by omega)).below hb)
    have HT' := Lib.hid (fun (W : World) (hb : Below w.heap.size w W) => (hu.head (k := n) (by omega)).below hb)
    have HA := Lib.hid (fun (W : World) (hb : Below w.heap.size w W) => hav.below hb)
    have HBb := Lib.hid (fun (W : World) (hb : Below w.heap.size w W) => hbv.below hb)
    have e1 : IntKind.i64.wrap (((n + 1 : Nat) : Int) - 1) = (n : Int) := by rw [IntWalk.i64_in _ (by omega)]; omega
    have hn1 : ¬ ((n + 1 : Nat) : Int) = 0 := by omega
    have hn2 : (n : Int) < ((n + 1 : Nat) : Int) := by omega
    have hPl : (P.take n).length = n := by simp; omega
    have hQl : (Q.take n).length = n := by simp; omega
    have hne1 : ¬ (s : Int) = 1 := by omega
    have HC := Lib.hid (fun (u1 u2 : Value) (l1 l2 : List Nat) (W : World) (a1 : BytesR W u1 l1) (a2 : BytesR W u2 l2) => children_c h ok u1 u2 l1 l2 W a1 a2)
    rw [hP] at r1 hcap ⊢
    rw [hQ] at r2 hcbp ⊢
    generalize hm : n + 1 = m at e1 hn1 hn2 r1 r2 hcap hcbp ⊢
    have hx0 : ((s : Int) == 1) = false := by simp; omega
    have hx1 : ((m : Int) == 0) = false := by simp; omega
    clear hm
    by_cases hk : i < Pl.split s
    · have hd' : n = (Pl.dirs i (Pl.split s)).length := by rw [Pl.dirs_l h2 hk] at hd; simpa using hd
      rw [chain_l h2 hk hP hd', chain_l h2 hk hQ hd'] at hch
      have HI1 := Lib.hid (fun (W : World) (hb : Below w.heap.size w W) => rootOf_is h ok n i (Pl.split s) _ _ al (P.take n) W hPl (by omega) (by omega) (by omega) (HA.out W hb) (HT.out W hb) hd')
      have HI2 := Lib.hid (fun (W : World) (hb : Below w.heap.size w W) => rootOf_is h ok n i (Pl.split s) _ _ bl (Q.take n) W hQl (by omega) (by omega) (by omega) (HBb.out W hb) (HT'.out W hb) hd')
      have HR := Lib.hid (fun (he : Pl.chain h al ((Pl.dirs i (Pl.split s)).zip (P.take n)) = Pl.chain h bl ((Pl.dirs i (Pl.split s)).zip (Q.take n))) (W : World) (hb : Below w.heap.size w W) => ih i (Pl.split s) _ _ _ _ al bl (P.take n) (Q.take n) W hPl hQl (by omega) (by omega) (by omega) hd' hne he (HA.out W hb) (HBb.out W hb) (HT.out W hb) (HT'.out W hb))
      have hk1 : (i : Int) < ((Pl.split s : Nat) : Int) := by omega
      have e3 : IntKind.u64.wrap ((s : Int) - ((Pl.split s : Nat) : Int)) = ((s - Pl.split s : Nat) : Int) := by rw [IntKind.wrap_u64]; omega
      generalize Pl.chain h al ((Pl.dirs i (Pl.split s)).zip (P.take n)) = ra at *
      generalize Pl.chain h bl ((Pl.dirs i (Pl.split s)).zip (Q.take n)) = rb at *
      generalize (P.getD n []) = x at *
      generalize (Q.getD n []) = y at *
      generalize (if cap = 0 then some (⟨g, o, none⟩ : Addr) else (some (⟨g, o, none⟩ : Addr)).map (·.add 0)) = A1 at *
      generalize (if cbp = 0 then some (⟨g', o', none⟩ : Addr) else (some (⟨g', o', none⟩ : Addr)).map (·.add 0)) = B1 at *
      generalize s - Pl.split s = t2 at *
      generalize Pl.split s = k at *
      have HXB := Lib.hid hlast.bytes
      have HYB := Lib.hid hlast'.bytes
      clear ih hc9 hc8 hv hu hav hbv hi hs hd hd' hk s1 s2 s3 hcl hlast hcl' hlast' hPl hQl h2 hne HA HBb HT HT'
      have HCh := Lib.hid hch
      clear hch
      obtain ⟨Ah, Bh, Ch⟩ := h
      unfold hashV at HI1 HI2 HR HC ⊢
      simp only [] at HI1 HI2 HR HC ⊢
      have c9 := hcl2.out _ (HB.out #[.int .u32 (Ah : Int), .int .u32 (Bh : Int), .int .u32 (Ch : Int)])
      have c8 := hcl2'.out _ (HB.out #[.int .u32 (Ah : Int), .int .u32 (Bh : Int), .int .u32 (Ch : Int)])
      go_enter Tryf.func20, Tryf.ntmps20
      go_wp2_with fail
      refine (HS.out _).mono ?_; rintro e w' ⟨rfl, rfl⟩
      go_wp2_with fail
      go_region
      go_wp2_with fail
      go_region
      go_wp2_with fail
      have B0 : Below w.heap.size w (w.alloc (.cells #[.int .u32 (Ah : Int), .int .u32 (Bh : Int), .int .u32 (Ch : Int)] 24)).drew.drew := (HB.out #[.int .u32 (Ah : Int), .int .u32 (Bh : Int), .int .u32 (Ch : Int)]).drew.drew
      refine (HI1.out _ B0).mono ?_; rintro e w1 ⟨u1, rfl, hu1, hb1⟩
      have K1 : Blk w1 w.heap.size 24 #[.int .u32 (Ah : Int), .int .u32 (Bh : Int), .int .u32 (Ch : Int)] := (Blk.new w _ _).drew.drew.below' hb1
      have B1 := keep1c B0 hb1
      have HU1 := Lib.hid hu1
      obtain ⟨Au, nu, cu, rfl⟩ := hu1.form
      obtain ⟨d1, d2, d3, _⟩ := K1.three
      clear hu1 hb1 B0 c9 c8
      go_wp2_with fail
      refine (HI2.out _ B1).mono ?_; rintro e w2 ⟨u2, rfl, hu2, hb2⟩
      have K2 := K1.below' hb2
      have B2 := keep1c B1 hb2
      have HU1' := Lib.hid (HU1.out.below hb2)
      have HU2 := Lib.hid hu2
      obtain ⟨Av, nv, cv, rfl⟩ := hu2.form
      clear d1 d2 d3 hu2 hb2 B1 K1 HU1
      obtain ⟨d1, d2, d3, _⟩ := K2.three
      have t1 := HU1'.out.str
      have t2 := HU2.out.str
      have t3 := (HLast.out _ B2).str
      have t4 := (HLast'.out _ B2).str
      by_cases hrr : ra = rb
      · by_cases hxy : x = y
        · subst hrr hxy
          clear HCh
          go_wp2_with fail
          refine (HR.out (by trivial) _ B2).mono ?_; rintro e w3 ⟨rfl, hb3⟩
          have B3 := keep1c B2 hb3
          clear d1 d2 d3 t1 t2 t3 t4 hb3
          go_wp2_with fail
          go_ret
          exact ⟨rfl, B3⟩
        · have hne := bs_ne HXB.out HYB.out hxy
          clear hxy
          subst hrr
          go_wp2_with fail
          have B2d := B2.drew
          have S0 : SQ w (.int .u32 (Ah : Int)) (.int .u32 (Bh : Int)) (.int .u32 (Ch : Int)) (.slice Au nu cu) (.slice A2 n2 c2) (.slice Av nv cv) (.slice A2' n2' c2') ra x ra y w2.drew := ⟨d1, d2, d3, HU1'.out, HLast.out _ B2d, HU2.out, HLast'.out _ B2d, B2d⟩
          have HC1 : Hid (∀ (W : World) (x1 x2 x3 : Value), SQ w x1 x2 x3 (.slice Au nu cu) (.slice A2 n2 c2) (.slice Av nv cv) (.slice A2' n2' c2') ra x ra y W → Calls Tryf.prog 24 #[.agg #[.int .u32 (Ah : Int), .int .u32 (Bh : Int), .int .u32 (Ch : Int)], .slice Au nu cu, .slice A2 n2 c2] W (RetBytes W (Pl.HF.hc ⟨Ah, Bh, Ch⟩ ra x))) := Lib.hid (fun W _ _ _ S => HC.out _ _ _ _ W S.2.2.2.1 S.2.2.2.2.1)
          have HC2 : Hid (∀ (W : World) (x1 x2 x3 : Value), SQ w x1 x2 x3 (.slice Au nu cu) (.slice A2 n2 c2) (.slice Av nv cv) (.slice A2' n2' c2') ra x ra y W → Calls Tryf.prog 24 #[.agg #[.int .u32 (Ah : Int), .int .u32 (Bh : Int), .int .u32 (Ch : Int)], .slice Av nv cv, .slice A2' n2' c2'] W (RetBytes W (Pl.HF.hc ⟨Ah, Bh, Ch⟩ ra x))) := Lib.hid (fun W _ _ _ S => by rw [HCh.out]; exact HC.out _ _ _ _ W S.2.2.2.2.2.1 S.2.2.2.2.2.2.1)
          generalize (Pl.HF.hc ⟨Ah, Bh, Ch⟩ ra x) = hres at HC1 HC2
          clear HCh HC HR t1 t2 t3 t4 hne
          go_region_held_law (fun w' => w'.cell? ⟨w.heap.size, 0, none⟩ = some (.int .u32 (Ah : Int)) ∧ w'.cell? ⟨w.heap.size, 1, none⟩ = some (.int .u32 (Bh : Int)) ∧ w'.cell? ⟨w.heap.size, 2, none⟩ = some (.int .u32 (Ch : Int)) ∧ BytesR w' (.slice Au nu cu) ra ∧ BytesR w' (.slice A2 n2 c2) x ∧ BytesR w' (.slice Av nv cv) ra ∧ BytesR w' (.slice A2' n2' c2') y ∧ Below w.heap.size w w')
            (first | assumption | exact S0 | exact keepQ hq1 (by assumption) | exact keepQ hq2 (by assumption))
            (first
              | (go_at_call_of 24 (Value.slice Au nu cu); refine (HC1.out _ _ _ _ (show SQ w (.int .u32 (Ah : Int)) (.int .u32 (Bh : Int)) (.int .u32 (Ch : Int)) _ _ _ _ _ _ _ _ _ by assumption)).mono ?_; rintro e w' ⟨y1, rfl, hy1, hq1⟩; have z1 := hy1.str; try have z2' := (hy2.below hq1).str)
              | (go_at_call_of 24 (Value.slice Av nv cv); refine (HC2.out _ _ _ _ (show SQ w (.int .u32 (Ah : Int)) (.int .u32 (Bh : Int)) (.int .u32 (Ch : Int)) _ _ _ _ _ _ _ _ _ by assumption)).mono ?_; rintro e w' ⟨y2, rfl, hy2, hq2⟩; have z2 := hy2.str; try have z1' := (hy1.below hq2).str))
          all_goals
            have hfin := (show SQ w (.int .u32 (Ah : Int)) (.int .u32 (Bh : Int)) (.int .u32 (Ch : Int)) (.slice Au nu cu) (.slice A2 n2 c2) (.slice Av nv cv) (.slice A2' n2' c2') ra x ra y w' by assumption).2.2.2.2.2.2.2
            go_wp2
            go_ret
            exact ⟨by first | rfl | (simp <;> omega), hfin⟩
      · have hne := bs_ne HU1'.out.bytes HU2.out.bytes hrr
        clear hrr
        go_wp2_with fail
        have B2d := B2.drew
        have S0 : SQ w (.int .u32 (Ah : Int)) (.int .u32 (Bh : Int)) (.int .u32 (Ch : Int)) (.slice Au nu cu) (.slice A2 n2 c2) (.slice Av nv cv) (.slice A2' n2' c2') ra x rb y w2.drew := ⟨d1, d2, d3, HU1'.out, HLast.out _ B2d, HU2.out, HLast'.out _ B2d, B2d⟩
        have HC1 : Hid (∀ (W : World) (x1 x2 x3 : Value), SQ w x1 x2 x3 (.slice Au nu cu) (.slice A2 n2 c2) (.slice Av nv cv) (.slice A2' n2' c2') ra x rb y W → Calls Tryf.prog 24 #[.agg #[.int .u32 (Ah : Int), .int .u32 (Bh : Int), .int .u32 (Ch : Int)], .slice Au nu cu, .slice A2 n2 c2] W (RetBytes W (Pl.HF.hc ⟨Ah, Bh, Ch⟩ ra x))) := Lib.hid (fun W _ _ _ S => HC.out _ _ _ _ W S.2.2.2.1 S.2.2.2.2.1)
        have HC2 : Hid (∀ (W : World) (x1 x2 x3 : Value), SQ w x1 x2 x3 (.slice Au nu cu) (.slice A2 n2 c2) (.slice Av nv cv) (.slice A2' n2' c2') ra x rb y W → Calls Tryf.prog 24 #[.agg #[.int .u32 (Ah : Int), .int .u32 (Bh : Int), .int .u32 (Ch : Int)], .slice Av nv cv, .slice A2' n2' c2'] W (RetBytes W (Pl.HF.hc ⟨Ah, Bh, Ch⟩ ra x))) := Lib.hid (fun W _ _ _ S => by rw [HCh.out]; exact HC.out _ _ _ _ W S.2.2.2.2.2.1 S.2.2.2.2.2.2.1)
        generalize (Pl.HF.hc ⟨Ah, Bh, Ch⟩ ra x) = hres at HC1 HC2
        clear HCh HC HR t1 t2 t3 t4 hne
        go_region_held_law (fun w' => w'.cell? ⟨w.heap.size, 0, none⟩ = some (.int .u32 (Ah : Int)) ∧ w'.cell? ⟨w.heap.size, 1, none⟩ = some (.int .u32 (Bh : Int)) ∧ w'.cell? ⟨w.heap.size, 2, none⟩ = some (.int .u32 (Ch : Int)) ∧ BytesR w' (.slice Au nu cu) ra ∧ BytesR w' (.slice A2 n2 c2) x ∧ BytesR w' (.slice Av nv cv) rb ∧ BytesR w' (.slice A2' n2' c2') y ∧ Below w.heap.size w w')
          (first | assumption | exact S0 | exact keepQ hq1 (by assumption) | exact keepQ hq2 (by assumption))
          (first
            | (go_at_call_of 24 (Value.slice Au nu cu); refine (HC1.out _ _ _ _ (show SQ w (.int .u32 (Ah : Int)) (.int .u32 (Bh : Int)) (.int .u32 (Ch : Int)) _ _ _ _ _ _ _ _ _ by assumption)).mono ?_; rintro e w' ⟨y1, rfl, hy1, hq1⟩; have z1 := hy1.str; try have z2' := (hy2.below hq1).str)
            | (go_at_call_of 24 (Value.slice Av nv cv); refine (HC2.out _ _ _ _ (show SQ w (.int .u32 (Ah : Int)) (.int .u32 (Bh : Int)) (.int .u32 (Ch : Int)) _ _ _ _ _ _ _ _ _ by assumption)).mono ?_; rintro e w' ⟨y2, rfl, hy2, hq2⟩; have z2 := hy2.str; try have z1' := (hy1.below hq2).str))
        all_goals
          have hfin := (show SQ w (.int .u32 (Ah : Int)) (.int .u32 (Bh : Int)) (.int .u32 (Ch : Int)) (.slice Au nu cu) (.slice A2 n2 c2) (.slice Av nv cv) (.slice A2' n2' c2') ra x rb y w' by assumption).2.2.2.2.2.2.2
          go_wp2
          go_ret
          exact ⟨by first | rfl | (simp <;> omega), hfin⟩
    · have hd' : n = (Pl.dirs (i - Pl.split s) (s - Pl.split s)).length := by rw [Pl.dirs_r h2 hk] at hd; simpa using hd
      rw [chain_r h2 hk hP hd', chain_r h2 hk hQ hd'] at hch
      have HI1 := Lib.hid (fun (W : World) (hb : Below w.heap.size w W) => rootOf_is h ok n (i - Pl.split s) (s - Pl.split s) _ _ al (P.take n) W hPl (by omega) (by omega) (by omega) (HA.out W hb) (HT.out W hb) hd')
      have HI2 := Lib.hid (fun (W : World) (hb : Below w.heap.size w W) => rootOf_is h ok n (i - Pl.split s) (s - Pl.split s) _ _ bl (Q.take n) W hQl (by omega) (by omega) (by omega) (HBb.out W hb) (HT'.out W hb) hd')
      have HR := Lib.hid (fun (he : Pl.chain h al ((Pl.dirs (i - Pl.split s) (s - Pl.split s)).zip (P.take n)) = Pl.chain h bl ((Pl.dirs (i - Pl.split s) (s - Pl.split s)).zip (Q.take n))) (W : World) (hb : Below w.heap.size w W) => ih (i - Pl.split s) (s - Pl.split s) _ _ _ _ al bl (P.take n) (Q.take n) W hPl hQl (by omega) (by omega) (by omega) hd' hne he (HA.out W hb) (HBb.out W hb) (HT.out W hb) (HT'.out W hb))
      have hk1 : ¬ (i : Int) < ((Pl.split s : Nat) : Int) := by omega
      have e2 : IntKind.u64.wrap ((i : Int) - ((Pl.split s : Nat) : Int)) = ((i - Pl.split s : Nat) : Int) := by rw [IntKind.wrap_u64]; omega
      have e3 : IntKind.u64.wrap ((s : Int) - ((Pl.split s : Nat) : Int)) = ((s - Pl.split s : Nat) : Int) := by rw [IntKind.wrap_u64]; omega
      generalize Pl.chain h al ((Pl.dirs (i - Pl.split s) (s - Pl.split s)).zip (P.take n)) = ra at *
      generalize Pl.chain h bl ((Pl.dirs (i - Pl.split s) (s - Pl.split s)).zip (Q.take n)) = rb at *
      generalize (P.getD n []) = x at *
      generalize (Q.getD n []) = y at *
      generalize (if cap = 0 then some (⟨g, o, none⟩ : Addr) else (some (⟨g, o, none⟩ : Addr)).map (·.add 0)) = A1 at *
      generalize (if cbp = 0 then some (⟨g', o', none⟩ : Addr) else (some (⟨g', o', none⟩ : Addr)).map (·.add 0)) = B1 at *
      generalize i - Pl.split s = i2 at *
      generalize s - Pl.split s = t2 at *
      generalize Pl.split s = k at *
      have HXB := Lib.hid hlast.bytes
      have HYB := Lib.hid hlast'.bytes
      clear ih hc9 hc8 hv hu hav hbv hi hs hd hd' hk s1 s2 s3 hcl hlast hcl' hlast' hPl hQl h2 hne HA HBb HT HT'
      have HCh := Lib.hid hch
      clear hch
      obtain ⟨Ah, Bh, Ch⟩ := h
      unfold hashV at HI1 HI2 HR HC ⊢
      simp only [] at HI1 HI2 HR HC ⊢
      have c9 := hcl2.out _ (HB.out #[.int .u32 (Ah : Int), .int .u32 (Bh : Int), .int .u32 (Ch : Int)])
      have c8 := hcl2'.out _ (HB.out #[.int .u32 (Ah : Int), .int .u32 (Bh : Int), .int .u32 (Ch : Int)])
      go_enter Tryf.func20, Tryf.ntmps20
      go_wp2_with fail
      refine (HS.out _).mono ?_; rintro e w' ⟨rfl, rfl⟩
      go_wp2_with fail
      go_region
      go_wp2_with fail
      go_region
      go_wp2_with fail
      have B0 : Below w.heap.size w (w.alloc (.cells #[.int .u32 (Ah : Int), .int .u32 (Bh : Int), .int .u32 (Ch : Int)] 24)).drew.drew := (HB.out #[.int .u32 (Ah : Int), .int .u32 (Bh : Int), .int .u32 (Ch : Int)]).drew.drew
      refine (HI1.out _ B0).mono ?_; rintro e w1 ⟨u1, rfl, hu1, hb1⟩
      have K1 : Blk w1 w.heap.size 24 #[.int .u32 (Ah : Int), .int .u32 (Bh : Int), .int .u32 (Ch : Int)] := (Blk.new w _ _).drew.drew.below' hb1
      have B1 := keep1c B0 hb1
      have HU1 := Lib.hid hu1
      obtain ⟨Au, nu, cu, rfl⟩ := hu1.form
      obtain ⟨d1, d2, d3, _⟩ := K1.three
      clear hu1 hb1 B0 c9 c8
      go_wp2_with fail
      refine (HI2.out _ B1).mono ?_; rintro e w2 ⟨u2, rfl, hu2, hb2⟩
      have K2 := K1.below' hb2
      have B2 := keep1c B1 hb2
      have HU1' := Lib.hid (HU1.out.below hb2)
      have HU2 := Lib.hid hu2
      obtain ⟨Av, nv, cv, rfl⟩ := hu2.form
      clear d1 d2 d3 hu2 hb2 B1 K1 HU1
      obtain ⟨d1, d2, d3, _⟩ := K2.three
      have t1 := HU1'.out.str
      have t2 := HU2.out.str
      have t3 := (HLast.out _ B2).str
      have t4 := (HLast'.out _ B2).str
      by_cases hrr : ra = rb
      · by_cases hxy : x = y
        · subst hrr hxy
          clear HCh
          go_wp2_with fail
          refine (HR.out (by trivial) _ B2).mono ?_; rintro e w3 ⟨rfl, hb3⟩
          have B3 := keep1c B2 hb3
          clear d1 d2 d3 t1 t2 t3 t4 hb3
          go_wp2_with fail
          go_ret
          exact ⟨rfl, B3⟩
        · have hne := bs_ne HXB.out HYB.out hxy
          clear hxy
          subst hrr
          go_wp2_with fail
          have B2d := B2.drew
          have S0 : SQ w (.int .u32 (Ah : Int)) (.int .u32 (Bh : Int)) (.int .u32 (Ch : Int)) (.slice Au nu cu) (.slice A2 n2 c2) (.slice Av nv cv) (.slice A2' n2' c2') ra x ra y w2.drew := ⟨d1, d2, d3, HU1'.out, HLast.out _ B2d, HU2.out, HLast'.out _ B2d, B2d⟩
          have HC1 : Hid (∀ (W : World) (x1 x2 x3 : Value), SQ w x1 x2 x3 (.slice Au nu cu) (.slice A2 n2 c2) (.slice Av nv cv) (.slice A2' n2' c2') ra x ra y W → Calls Tryf.prog 24 #[.agg #[.int .u32 (Ah : Int), .int .u32 (Bh : Int), .int .u32 (Ch : Int)], .slice A2 n2 c2, .slice Au nu cu] W (RetBytes W (Pl.HF.hc ⟨Ah, Bh, Ch⟩ x ra))) := Lib.hid (fun W _ _ _ S => HC.out _ _ _ _ W S.2.2.2.2.1 S.2.2.2.1)
          have HC2 : Hid (∀ (W : World) (x1 x2 x3 : Value), SQ w x1 x2 x3 (.slice Au nu cu) (.slice A2 n2 c2) (.slice Av nv cv) (.slice A2' n2' c2') ra x ra y W → Calls Tryf.prog 24 #[.agg #[.int .u32 (Ah : Int), .int .u32 (Bh : Int), .int .u32 (Ch : Int)], .slice A2' n2' c2', .slice Av nv cv] W (RetBytes W (Pl.HF.hc ⟨Ah, Bh, Ch⟩ x ra))) := Lib.hid (fun W _ _ _ S => by rw [HCh.out]; exact HC.out _ _ _ _ W S.2.2.2.2.2.2.1 S.2.2.2.2.2.1)
          generalize (Pl.HF.hc ⟨Ah, Bh, Ch⟩ x ra) = hres at HC1 HC2
          clear HCh HC HR t1 t2 t3 t4 hne
          go_region_held_law (fun w' => w'.cell? ⟨w.heap.size, 0, none⟩ = some (.int .u32 (Ah : Int)) ∧ w'.cell? ⟨w.heap.size, 1, none⟩ = some (.int .u32 (Bh : Int)) ∧ w'.cell? ⟨w.heap.size, 2, none⟩ = some (.int .u32 (Ch : Int)) ∧ BytesR w' (.slice Au nu cu) ra ∧ BytesR w' (.slice A2 n2 c2) x ∧ BytesR w' (.slice Av nv cv) ra ∧ BytesR w' (.slice A2' n2' c2') y ∧ Below w.heap.size w w')
            (first | assumption | exact S0 | exact keepQ hq1 (by assumption) | exact keepQ hq2 (by assumption))
            (first
              | (go_at_call_of 24 (Value.slice Au nu cu); refine (HC1.out _ _ _ _ (show SQ w (.int .u32 (Ah : Int)) (.int .u32 (Bh : Int)) (.int .u32 (Ch : Int)) _ _ _ _ _ _ _ _ _ by assumption)).mono ?_; rintro e w' ⟨y1, rfl, hy1, hq1⟩; have z1 := hy1.str; try have z2' := (hy2.below hq1).str)
              | (go_at_call_of 24 (Value.slice Av nv cv); refine (HC2.out _ _ _ _ (show SQ w (.int .u32 (Ah : Int)) (.int .u32 (Bh : Int)) (.int .u32 (Ch : Int)) _ _ _ _ _ _ _ _ _ by assumption)).mono ?_; rintro e w' ⟨y2, rfl, hy2, hq2⟩; have z2 := hy2.str; try have z1' := (hy1.below hq2).str))
          all_goals
            have hfin := (show SQ w (.int .u32 (Ah : Int)) (.int .u32 (Bh : Int)) (.int .u32 (Ch : Int)) (.slice Au nu cu) (.slice A2 n2 c2) (.slice Av nv cv) (.slice A2' n2' c2') ra x ra y w' by assumption).2.2.2.2.2.2.2
            go_wp2
            go_ret
            exact ⟨by first | rfl | (simp <;> omega), hfin⟩
      · have hne := bs_ne HU1'.out.bytes HU2.out.bytes hrr
        clear hrr
        go_wp2_with fail
        have B2d := B2.drew
        have S0 : SQ w (.int .u32 (Ah : Int)) (.int .u32 (Bh : Int)) (.int .u32 (Ch : Int)) (.slice Au nu cu) (.slice A2 n2 c2) (.slice Av nv cv) (.slice A2' n2' c2') ra x rb y w2.drew := ⟨d1, d2, d3, HU1'.out, HLast.out _ B2d, HU2.out, HLast'.out _ B2d, B2d⟩
        have HC1 : Hid (∀ (W : World) (x1 x2 x3 : Value), SQ w x1 x2 x3 (.slice Au nu cu) (.slice A2 n2 c2) (.slice Av nv cv) (.slice A2' n2' c2') ra x rb y W → Calls Tryf.prog 24 #[.agg #[.int .u32 (Ah : Int), .int .u32 (Bh : Int), .int .u32 (Ch : Int)], .slice A2 n2 c2, .slice Au nu cu] W (RetBytes W (Pl.HF.hc ⟨Ah, Bh, Ch⟩ x ra))) := Lib.hid (fun W _ _ _ S => HC.out _ _ _ _ W S.2.2.2.2.1 S.2.2.2.1)
        have HC2 : Hid (∀ (W : World) (x1 x2 x3 : Value), SQ w x1 x2 x3 (.slice Au nu cu) (.slice A2 n2 c2) (.slice Av nv cv) (.slice A2' n2' c2') ra x rb y W → Calls Tryf.prog 24 #[.agg #[.int .u32 (Ah : Int), .int .u32 (Bh : Int), .int .u32 (Ch : Int)], .slice A2' n2' c2', .slice Av nv cv] W (RetBytes W (Pl.HF.hc ⟨Ah, Bh, Ch⟩ x ra))) := Lib.hid (fun W _ _ _ S => by rw [HCh.out]; exact HC.out _ _ _ _ W S.2.2.2.2.2.2.1 S.2.2.2.2.2.1)
        generalize (Pl.HF.hc ⟨Ah, Bh, Ch⟩ x ra) = hres at HC1 HC2
        clear HCh HC HR t1 t2 t3 t4 hne
        go_region_held_law (fun w' => w'.cell? ⟨w.heap.size, 0, none⟩ = some (.int .u32 (Ah : Int)) ∧ w'.cell? ⟨w.heap.size, 1, none⟩ = some (.int .u32 (Bh : Int)) ∧ w'.cell? ⟨w.heap.size, 2, none⟩ = some (.int .u32 (Ch : Int)) ∧ BytesR w' (.slice Au nu cu) ra ∧ BytesR w' (.slice A2 n2 c2) x ∧ BytesR w' (.slice Av nv cv) rb ∧ BytesR w' (.slice A2' n2' c2') y ∧ Below w.heap.size w w')
          (first | assumption | exact S0 | exact keepQ hq1 (by assumption) | exact keepQ hq2 (by assumption))
          (first
            | (go_at_call_of 24 (Value.slice Au nu cu); refine (HC1.out _ _ _ _ (show SQ w (.int .u32 (Ah : Int)) (.int .u32 (Bh : Int)) (.int .u32 (Ch : Int)) _ _ _ _ _ _ _ _ _ by assumption)).mono ?_; rintro e w' ⟨y1, rfl, hy1, hq1⟩; have z1 := hy1.str; try have z2' := (hy2.below hq1).str)
            | (go_at_call_of 24 (Value.slice Av nv cv); refine (HC2.out _ _ _ _ (show SQ w (.int .u32 (Ah : Int)) (.int .u32 (Bh : Int)) (.int .u32 (Ch : Int)) _ _ _ _ _ _ _ _ _ by assumption)).mono ?_; rintro e w' ⟨y2, rfl, hy2, hq2⟩; have z2 := hy2.str; try have z1' := (hy1.below hq2).str))
        all_goals
          have hfin := (show SQ w (.int .u32 (Ah : Int)) (.int .u32 (Bh : Int)) (.int .u32 (Ch : Int)) (.slice Au nu cu) (.slice A2 n2 c2) (.slice Av nv cv) (.slice A2' n2' c2') ra x rb y w' by assumption).2.2.2.2.2.2.2
          go_wp2
          go_ret
          exact ⟨by first | rfl | (simp <;> omega), hfin⟩
end Go.Proofs.YtklofjhmgoejiaaFmt
