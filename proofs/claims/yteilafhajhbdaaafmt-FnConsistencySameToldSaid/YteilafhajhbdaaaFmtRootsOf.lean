/- spec.RootsOf: what the reference tells of a consistency proof. -/
import Derived.Test.YteilafhajhbdaaaFmtRootP
import Derived.Test.YteilafhajhbdaaaFmtSplit
import Derived.Test.YteilafhajhbdaaaFmtCd
import Derived.Deep.RegionHeldLaw
import Derived.OwnWalk
namespace Go.Proofs.YteilafhajhbdaaaFmt
open Go.ChangeShapes Go.WideShapes Go.ChangeAt Go.RowKit
set_option maxRecDepth 20000
/-- The last element, as the walk wants it. -/
theorem HashesR.last {w : World} {A : Option Addr} {m n cap : Nat} {L : List (List Nat)} (h : HashesR w (.slice A m cap) L) (hn : L.length = n + 1) :
    ∃ g o A2 c2 n2, A = some ⟨g, o, none⟩ ∧ w.cell? ⟨g, o + n, none⟩ = some (.slice A2 n2 c2) ∧ BytesR w (.slice A2 n2 c2) (L.getD n []) := by
  obtain ⟨A', cap', e, hc, hy, hat⟩ := h
  injection e with e1 e2 e3
  subst e1 e2 e3
  obtain ⟨g, o, rfl, h'⟩ := hat (by omega)
  obtain ⟨u, hu, hb⟩ := h' n (by omega)
  obtain ⟨A2, n2, c2, rfl⟩ := hb.form
  exact ⟨g, o, A2, c2, n2, rfl, hu, by rw [List.getD_eq_getElem?_getD, List.getElem?_eq_getElem (by omega)]; exact hb⟩
theorem bs_ne {l m : List Nat} (hl : Pl.Bytes l) (hm : Pl.Bytes m) (h : l ≠ m) : ((bs l).toList == (bs m).toList) = false := by
  have hn : ¬ (bs l).toList = (bs m).toList := fun e => h (bs_inj hl hm (by
    rw [ByteArray.toList_eq, ByteArray.toList_eq] at e
    cases hl : bs l with | mk a => cases hm : bs m with | mk b => rw [hl, hm] at e; cases a; cases b; simp at e; subst e; rfl))
  simpa using hn
theorem empty_bytes (w : World) : BytesR w (.slice none 0 0) [] := ⟨none, 0, rfl, Nat.le_refl _, fun x hx => by simp at hx, fun h => by simp at h⟩
theorem keep1r {w W w' : World} (h : Below w.heap.size w W) (hb : Below W.heap.size W w') : Below w.heap.size w w' := h.trans (hb.mono h.size)
abbrev ST (w : World) (x1 x2 x3 a b c : Value) (la lb lc : List Nat) (w' : World) : Prop := w'.cell? ⟨w.heap.size, 0, none⟩ = some x1 ∧ w'.cell? ⟨w.heap.size, 1, none⟩ = some x2 ∧ w'.cell? ⟨w.heap.size, 2, none⟩ = some x3 ∧ BytesR w' a la ∧ BytesR w' b lb ∧ BytesR w' c lc ∧ Below w.heap.size w w'
theorem keepT {w W w' : World} {x1 x2 x3 a b c : Value} {la lb lc : List Nat} (hb : Below W.heap.size W w') (h : ST w x1 x2 x3 a b c la lb lc W) : ST w x1 x2 x3 a b c la lb lc w' :=
  have up : ∀ {p : Addr} {v : Value}, W.cell? p = some v → w'.cell? p = some v := fun {p} {_} h => (hb.cell (World.block_lt_of_cell? W p h)).trans h
  ⟨up h.1, up h.2.1, up h.2.2.1, h.2.2.2.1.below hb, h.2.2.2.2.1.below hb, h.2.2.2.2.2.1.below hb, h.2.2.2.2.2.2.trans (hb.mono h.2.2.2.2.2.2.size)⟩
/-- Two times bytes and a yes or no. -/
def RetRootsOf (w : World) (r : List Nat × List Nat × Bool) (e : Ending) (w' : World) : Prop := ∃ a b, e = .returned (.tuple #[a, b, .bool r.2.2]) ∧ BytesR w' a r.1 ∧ BytesR w' b r.2.1 ∧ Below w.heap.size w w'
set_option maxHeartbeats 2000000 in
theorem rootsOf_c (h : Pl.HF) (ok : h.ok) : ∀ (n m s : Nat) (v rv : Value) (r1 : List Nat) (P : List (List Nat)) (wh : Bool) (w : World), P.length = n → n ≤ 2147483647 → 1 ≤ m → m ≤ s → s < 18446744073709551616 → BytesR w rv r1 → HashesR w v P →
    Calls Tryf.prog 15 #[hashV h, .int .u64 (m : Int), .int .u64 (s : Int), v, rv, .bool wh] w (RetRootsOf w (Pl.rootsOf h r1 n m s P wh)) := by
  intro n
  induction n with
  | zero =>
    intro m s v rv r1 P wh w hP hn h1 hm hs hrv hv
    obtain ⟨A, cap, rfl, hc9⟩ := id hv
    obtain ⟨Ar, nr, cr, rfl⟩ := hrv.form
    rw [hP]
    have HB := Lib.hid (fun C => (Below.refl w.heap.size w).alloc (Nat.le_refl _) (.cells C 24))
    have HRV := Lib.hid (fun C => hrv.below ((Below.refl w.heap.size w).alloc (Nat.le_refl _) (.cells C 24)))
    clear hc9 hv hrv
    rw [Pl.rootsOf]
    obtain ⟨Ah, Bh, Ch⟩ := h
    unfold hashV
    by_cases he : m = s
    · subst he
      rw [if_pos rfl]
      cases wh
      · clear hs hm h1
        go_enter Tryf.func15, Tryf.ntmps15
        go_wp2_with fail
        go_ret3
        exact ⟨_, _, rfl, empty_bytes _, empty_bytes _, HB.out _⟩
      · clear hs hm h1
        go_enter Tryf.func15, Tryf.ntmps15
        go_wp2_with fail
        go_ret3
        exact ⟨_, _, rfl, HRV.out _, HRV.out _, HB.out _⟩
    · rw [if_neg he]
      have hg : ¬ (m : Int) = (s : Int) := by omega
      have hg3 : ((m : Int) == (s : Int)) = false := beq_eq_false_iff_ne.2 hg
      clear hs hm h1 he
      go_enter Tryf.func15, Tryf.ntmps15
      go_wp2_with fail
      go_ret3
      exact ⟨_, _, rfl, empty_bytes _, empty_bytes _, HB.out _⟩
  | succ n ih =>
    intro m s v rv r1 P wh w hP hn h1 hm hs hrv hv
    obtain ⟨A, cap, rfl, hcap, hc9⟩ := id hv
    obtain ⟨Ar, nr, cr, rfl⟩ := hrv.form
    have HB := Lib.hid (fun C => (Below.refl w.heap.size w).alloc (Nat.le_refl _) (.cells C 24))
    have HRV := Lib.hid (fun (W : World) (hb : Below w.heap.size w W) => hrv.below hb)
    have hcast : ¬ (P.length : Int) = 0 := by omega
    have hcast2 : ((P.length : Int) == 0) = false := beq_eq_false_iff_ne.2 hcast
    by_cases he : m = s
    · subst he
      rw [Pl.rootsOf, if_pos rfl]
      cases wh
      · by_cases h0 : n = 0
        · subst h0
          obtain ⟨g, o, A2, c2, n2, rfl, hcl, hlast⟩ := hv.last hP
          rw [Nat.add_zero] at hcl
          have hcl2 := Lib.hid (fun (W : World) (hb : Below w.heap.size w W) => (hb.cell (World.block_lt_of_cell? w _ hcl)).trans hcl)
          have HLast := Lib.hid (fun (W : World) (hb : Below w.heap.size w W) => hlast.below hb)
          rw [if_neg (by decide), if_pos rfl]
          rw [show P.length = 1 from hP] at *
          clear hc9 hv hrv hs hm h1 ih hcl hlast hcast hcast2 hP hn hcap
          obtain ⟨Ah, Bh, Ch⟩ := h
          unfold hashV
          have c9 := hcl2.out _ (HB.out #[.int .u32 (Ah : Int), .int .u32 (Bh : Int), .int .u32 (Ch : Int)])
          go_enter Tryf.func15, Tryf.ntmps15
          go_wp2_with fail
          go_region
          go_wp2_with fail
          go_ret3
          exact ⟨_, _, rfl, HLast.out _ (HB.out _).drew, HLast.out _ (HB.out _).drew, (HB.out _).drew⟩
        · rw [if_neg (by decide), if_neg h0]
          have hg : ¬ (P.length : Int) = 1 := by omega
          have hg3 : ((P.length : Int) != 1) = true := by simp; omega
          clear hc9 hv hrv hs hm h1 ih hcast hcast2 hP hn hcap
          generalize P.length = np at *
          obtain ⟨Ah, Bh, Ch⟩ := h
          unfold hashV
          go_enter Tryf.func15, Tryf.ntmps15
          go_wp2_with fail
          go_ret3
          exact ⟨_, _, rfl, empty_bytes _, empty_bytes _, HB.out _⟩
      · rw [if_pos rfl]
        clear hc9 hv hrv hs hm h1 ih hP hn hcap
        generalize P.length = np at *
        obtain ⟨Ah, Bh, Ch⟩ := h
        unfold hashV
        go_enter Tryf.func15, Tryf.ntmps15
        go_wp2_with fail
        go_ret3
        exact ⟨_, _, by simp, HRV.out _ (HB.out _), HRV.out _ (HB.out _), HB.out _⟩
    have hlt : m < s := by omega
    obtain ⟨s1, s2⟩ := Pl.split_spec (show 2 ≤ s by omega)
    have s3 := Pl.split_pos s
    have HS := Lib.hid (fun W => split_c s (by omega) hs W)
    obtain ⟨g, o, A2, c2, n2, rfl, hcl, hlast⟩ := hv.last hP
    have hcl2 := Lib.hid (fun (W : World) (hb : Below w.heap.size w W) => (hb.cell (World.block_lt_of_cell? w _ hcl)).trans hcl)
    have HLast := Lib.hid (fun (W : World) (hb : Below w.heap.size w W) => hlast.below hb)
    have r1' := fun W => hashes_head (some ⟨g, o, none⟩) P.length cap n (by omega) W
    have HT := Lib.hid (fun (W : World) (hb : Below w.heap.size w W) => (hv.head (k := n) (by omega)).below hb)
    have e1 : IntKind.i64.wrap ((P.length : Int) - 1) = (n : Int) := by rw [IntWalk.i64_in _ (by omega)]; omega
    have hn2 : (n : Int) < (P.length : Int) := by omega
    have hPl : (P.take n).length = n := by simp; omega
    have hne : ¬ (m : Int) = (s : Int) := by omega
    have hne3 : ((m : Int) == (s : Int)) = false := beq_eq_false_iff_ne.2 hne
    have HC := Lib.hid (fun (u1 u2 : Value) (l1 l2 : List Nat) (W : World) (a1 : BytesR W u1 l1) (a2 : BytesR W u2 l2) => children_c h ok u1 u2 l1 l2 W a1 a2)
    by_cases hk : m ≤ Pl.split s
    · have HI := Lib.hid (fun (W : World) (hb : Below w.heap.size w W) => ih m (Pl.split s) _ _ r1 (P.take n) wh W hPl (by omega) h1 hk (by omega) (HRV.out W hb) (HT.out W hb))
      have HE : Hid (Pl.rootsOf h r1 (n + 1) m s P wh = ((Pl.rootsOf h r1 n m (Pl.split s) (P.take n) wh).1, h.hc (Pl.rootsOf h r1 n m (Pl.split s) (P.take n) wh).2.1 (P.getD n []), (Pl.rootsOf h r1 n m (Pl.split s) (P.take n) wh).2.2)) := by rw [Pl.rootsOf, if_neg he, if_pos hk]; exact rfl
      rw [HE.out]
      clear HE
      generalize Pl.rootsOf h r1 n m (Pl.split s) (P.take n) wh = sub at *
      obtain ⟨sa, sb, sc⟩ := sub
      simp only [] at HI ⊢
      have hk1 : (m : Int) ≤ ((Pl.split s : Nat) : Int) := by omega
      generalize (P.getD n []) = last at *
      generalize (if cap = 0 then some (⟨g, o, none⟩ : Addr) else (some (⟨g, o, none⟩ : Addr)).map (·.add 0)) = A1 at *
      generalize Pl.split s = k at *
      clear ih hc9 hv hrv hs hk s1 s2 s3 hcl hlast hPl he hlt hm h1 hcap hP hn
      generalize P.length = np at *
      obtain ⟨Ah, Bh, Ch⟩ := h
      unfold hashV at HI HC ⊢
      simp only [] at HI HC ⊢
      have c9 := hcl2.out _ (HB.out #[.int .u32 (Ah : Int), .int .u32 (Bh : Int), .int .u32 (Ch : Int)])
      go_enter Tryf.func15, Tryf.ntmps15
      go_wp2_with fail
      refine (HS.out _).mono ?_; rintro e w' ⟨rfl, rfl⟩
      go_wp2_with fail
      refine (HI.out _ (HB.out _)).mono ?_; rintro e w1 ⟨u1, u2, rfl, hu1, hu2, hb1⟩
      have K1 : Blk w1 w.heap.size 24 #[.int .u32 (Ah : Int), .int .u32 (Bh : Int), .int .u32 (Ch : Int)] := (Blk.new w _ _).below' hb1
      have B1 := (HB.out #[.int .u32 (Ah : Int), .int .u32 (Bh : Int), .int .u32 (Ch : Int)]).trans (hb1.mono (by simp))
      obtain ⟨c1, c2', c3, _⟩ := K1.three
      have HU := Lib.hid hu1
      have HV := Lib.hid hu2
      obtain ⟨Au, nu, cu, rfl⟩ := hu1.form
      obtain ⟨Av, nv, cv, rfl⟩ := hu2.form
      clear hu1 hu2 hb1 K1 c9
      go_wp2_with fail
      refine (HC.out _ _ _ _ _ HV.out (HLast.out _ B1)).mono ?_; rintro e w2 ⟨u3, rfl, hu3, hb2⟩
      have B2 := B1.trans (hb2.mono B1.size)
      have HU2 := Lib.hid (HU.out.below hb2)
      have HU3 := Lib.hid hu3
      obtain ⟨Aw, nw, cw, rfl⟩ := hu3.form
      clear hu3 hb2 B1 c1 c2' c3
      go_wp2_with fail
      go_ret3
      exact ⟨_, _, rfl, HU2.out, HU3.out, B2⟩
    · have HI := Lib.hid (fun (W : World) (hb : Below w.heap.size w W) => ih (m - Pl.split s) (s - Pl.split s) _ _ r1 (P.take n) false W hPl (by omega) (by omega) (by omega) (by omega) (HRV.out W hb) (HT.out W hb))
      have HE : Hid (Pl.rootsOf h r1 (n + 1) m s P wh = (h.hc (P.getD n []) (Pl.rootsOf h r1 n (m - Pl.split s) (s - Pl.split s) (P.take n) false).1, h.hc (P.getD n []) (Pl.rootsOf h r1 n (m - Pl.split s) (s - Pl.split s) (P.take n) false).2.1, (Pl.rootsOf h r1 n (m - Pl.split s) (s - Pl.split s) (P.take n) false).2.2)) := by rw [Pl.rootsOf, if_neg he, if_neg hk]; exact rfl
      rw [HE.out]
      clear HE
      generalize Pl.rootsOf h r1 n (m - Pl.split s) (s - Pl.split s) (P.take n) false = sub at *
      obtain ⟨sa, sb, sc⟩ := sub
      simp only [] at HI ⊢
      have hk1 : ¬ (m : Int) ≤ ((Pl.split s : Nat) : Int) := by omega
      have e2 : IntKind.u64.wrap ((m : Int) - ((Pl.split s : Nat) : Int)) = ((m - Pl.split s : Nat) : Int) := by rw [IntKind.wrap_u64]; omega
      have e3 : IntKind.u64.wrap ((s : Int) - ((Pl.split s : Nat) : Int)) = ((s - Pl.split s : Nat) : Int) := by rw [IntKind.wrap_u64]; omega
      generalize (P.getD n []) = last at *
      generalize (if cap = 0 then some (⟨g, o, none⟩ : Addr) else (some (⟨g, o, none⟩ : Addr)).map (·.add 0)) = A1 at *
      generalize m - Pl.split s = i2 at *
      generalize s - Pl.split s = t2 at *
      generalize Pl.split s = k at *
      clear ih hc9 hv hrv hs hk s1 s2 s3 hcl hlast hPl he hlt hm h1 hcap hP hn
      generalize P.length = np at *
      obtain ⟨Ah, Bh, Ch⟩ := h
      unfold hashV at HI HC ⊢
      simp only [] at HI HC ⊢
      have c9 := hcl2.out _ (HB.out #[.int .u32 (Ah : Int), .int .u32 (Bh : Int), .int .u32 (Ch : Int)])
      go_enter Tryf.func15, Tryf.ntmps15
      go_wp2_with fail
      refine (HS.out _).mono ?_; rintro e w' ⟨rfl, rfl⟩
      go_wp2_with fail
      refine (HI.out _ (HB.out _)).mono ?_; rintro e w1 ⟨u1, u2, rfl, hu1, hu2, hb1⟩
      have K1 : Blk w1 w.heap.size 24 #[.int .u32 (Ah : Int), .int .u32 (Bh : Int), .int .u32 (Ch : Int)] := (Blk.new w _ _).below' hb1
      have B1 := (HB.out #[.int .u32 (Ah : Int), .int .u32 (Bh : Int), .int .u32 (Ch : Int)]).trans (hb1.mono (by simp))
      obtain ⟨c1, c2', c3, _⟩ := K1.three
      have HU := Lib.hid hu1
      have HV := Lib.hid hu2
      obtain ⟨Au, nu, cu, rfl⟩ := hu1.form
      obtain ⟨Av, nv, cv, rfl⟩ := hu2.form
      clear hu1 hu2 hb1 K1 c9
      go_wp2_with fail
      have S0 : ST w (.int .u32 (Ah : Int)) (.int .u32 (Bh : Int)) (.int .u32 (Ch : Int)) (.slice Au nu cu) (.slice Av nv cv) (.slice A2 n2 c2) sa sb last w1.drew := ⟨c1, c2', c3, HU.out, HV.out, HLast.out _ B1.drew, B1.drew⟩
      have HC1 : Hid (∀ (W : World) (x1 x2 x3 : Value), ST w x1 x2 x3 (.slice Au nu cu) (.slice Av nv cv) (.slice A2 n2 c2) sa sb last W → Calls Tryf.prog 22 #[.agg #[.int .u32 (Ah : Int), .int .u32 (Bh : Int), .int .u32 (Ch : Int)], .slice A2 n2 c2, .slice Au nu cu] W (RetBytes W (Pl.HF.hc ⟨Ah, Bh, Ch⟩ last sa))) := Lib.hid (fun W _ _ _ S => HC.out _ _ _ _ W S.2.2.2.2.2.1 S.2.2.2.1)
      have HC2 : Hid (∀ (W : World) (x1 x2 x3 : Value), ST w x1 x2 x3 (.slice Au nu cu) (.slice Av nv cv) (.slice A2 n2 c2) sa sb last W → Calls Tryf.prog 22 #[.agg #[.int .u32 (Ah : Int), .int .u32 (Bh : Int), .int .u32 (Ch : Int)], .slice A2 n2 c2, .slice Av nv cv] W (RetBytes W (Pl.HF.hc ⟨Ah, Bh, Ch⟩ last sb))) := Lib.hid (fun W _ _ _ S => HC.out _ _ _ _ W S.2.2.2.2.2.1 S.2.2.2.2.1)
      generalize Pl.HF.hc ⟨Ah, Bh, Ch⟩ last sa = ra at *
      generalize Pl.HF.hc ⟨Ah, Bh, Ch⟩ last sb = rb at *
      clear HC c1 c2' c3 B1
      go_region_held_law (fun w' => w'.cell? ⟨w.heap.size, 0, none⟩ = some (.int .u32 (Ah : Int)) ∧ w'.cell? ⟨w.heap.size, 1, none⟩ = some (.int .u32 (Bh : Int)) ∧ w'.cell? ⟨w.heap.size, 2, none⟩ = some (.int .u32 (Ch : Int)) ∧ BytesR w' (.slice Au nu cu) sa ∧ BytesR w' (.slice Av nv cv) sb ∧ BytesR w' (.slice A2 n2 c2) last ∧ Below w.heap.size w w')
        (first | assumption | exact S0 | exact keepT hq1 (by assumption) | exact keepT hq2 (by assumption))
        (first
          | (go_at_call_of 22 (Value.slice Au nu cu); refine (HC1.out _ _ _ _ (show ST w (.int .u32 (Ah : Int)) (.int .u32 (Bh : Int)) (.int .u32 (Ch : Int)) _ _ _ _ _ _ _ by assumption)).mono ?_; rintro e w' ⟨y1, rfl, hy1, hq1⟩; try have hy2' := hy2.below hq1)
          | (go_at_call_of 22 (Value.slice Av nv cv); refine (HC2.out _ _ _ _ (show ST w (.int .u32 (Ah : Int)) (.int .u32 (Bh : Int)) (.int .u32 (Ch : Int)) _ _ _ _ _ _ _ by assumption)).mono ?_; rintro e w' ⟨y2, rfl, hy2, hq2⟩; try have hy1' := hy1.below hq2))
      all_goals
        have hfin := (show ST w (.int .u32 (Ah : Int)) (.int .u32 (Bh : Int)) (.int .u32 (Ch : Int)) (.slice Au nu cu) (.slice Av nv cv) (.slice A2 n2 c2) sa sb last w' by assumption).2.2.2.2.2.2
        have f1 : BytesR w' y1 ra := by first | exact hy1' | exact hy1
        have f2 : BytesR w' y2 rb := by first | exact hy2' | exact hy2
        obtain ⟨Aw, nw, cw, rfl⟩ := f1.form
        obtain ⟨Ax, nx, cx, rfl⟩ := f2.form
        have F1 := Lib.hid f1
        have F2 := Lib.hid f2
        clear f1 f2
        try clear hy1
        try clear hy2
        go_wp2
        go_ret3
        exact ⟨_, _, rfl, F1.out, F2.out, hfin⟩
end Go.Proofs.YteilafhajhbdaaaFmt
