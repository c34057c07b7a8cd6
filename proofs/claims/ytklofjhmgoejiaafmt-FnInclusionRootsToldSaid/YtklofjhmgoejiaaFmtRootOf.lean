/- spec.RootOf: what the reference tells of an inclusion proof. -/
import Derived.Test.YtklofjhmgoejiaaFmtRootP
import Derived.Test.YtklofjhmgoejiaaFmtSplit
namespace Go.Proofs.YtklofjhmgoejiaaFmt.Pl
/-- The root that an inclusion proof tells, and whether the proof has the right length. -/
def rootOf (h : HF) (leaf : List Nat) : Nat → Nat → Nat → List (List Nat) → List Nat × Bool
  | 0, _, s, _ => if s = 1 then (leaf, true) else ([], false)
  | n + 1, i, s, P => if s = 1 then (leaf, false) else
      if i < split s then (h.hc (rootOf h leaf n i (split s) (P.take n)).1 (P.getD n []), (rootOf h leaf n i (split s) (P.take n)).2)
      else (h.hc (P.getD n []) (rootOf h leaf n (i - split s) (s - split s) (P.take n)).1, (rootOf h leaf n (i - split s) (s - split s) (P.take n)).2)
theorem dirs_pos {i s : Nat} (h2 : 2 ≤ s) : 0 < (dirs i s).length := by
  by_cases h : i < split s
  · rw [dirs_l h2 h]; simp
  · rw [dirs_r h2 h]; simp
theorem snocD {P : List (List Nat)} {n : Nat} (hn : P.length = n + 1) : P = P.take n ++ [P.getD n []] := by
  conv => lhs; rw [← List.take_append_drop n P]
  congr 1
  rw [List.drop_eq_getElem_cons (by omega), List.getD_eq_getElem?_getD, List.getElem?_eq_getElem (by omega), List.drop_eq_nil_of_le (by omega)]
  rfl
theorem rootOf_spec (h : HF) (leaf : List Nat) : ∀ (n i s : Nat) (P : List (List Nat)), P.length = n → i < s → ((rootOf h leaf n i s P).2 = decide (n = (dirs i s).length)) ∧ (n = (dirs i s).length → (rootOf h leaf n i s P).1 = chain h leaf ((dirs i s).zip P)) := by
  intro n
  induction n with
  | zero =>
    intro i s P hP hi
    have hP0 : P = [] := List.eq_nil_of_length_eq_zero hP
    subst hP0
    by_cases h1 : s = 1
    · subst h1
      rw [rootOf, if_pos rfl, dirs_one]
      exact ⟨by simp, fun _ => rfl⟩
    · have := dirs_pos (i := i) (s := s) (by omega)
      rw [rootOf, if_neg h1]
      exact ⟨by simp; intro h; rw [h] at this; simp at this, fun h => by omega⟩
  | succ n ih =>
    intro i s P hP hi
    by_cases h1 : s = 1
    · subst h1
      rw [rootOf, if_pos rfl, dirs_one]
      exact ⟨by simp, fun h => by simp at h⟩
    · have hs := snocD hP
      have hl : (P.take n).length = n := by simp; omega
      rw [rootOf, if_neg h1]
      by_cases hk : i < split s
      · obtain ⟨a, b⟩ := ih i (split s) (P.take n) hl hk
        rw [if_pos hk, dirs_l (by omega) hk]
        refine ⟨by rw [a]; simp, fun hn => ?_⟩
        have hn' : n = (dirs i (split s)).length := by simpa using hn
        rw [b hn']
        conv => rhs; rw [hs]
        rw [zip_snoc (by rw [hl]; exact hn'.symm), chain_snoc]
        rfl
      · obtain ⟨a, b⟩ := ih (i - split s) (s - split s) (P.take n) hl (by omega)
        rw [if_neg hk, dirs_r (by omega) hk]
        refine ⟨by rw [a]; simp, fun hn => ?_⟩
        have hn' : n = (dirs (i - split s) (s - split s)).length := by simpa using hn
        rw [b hn']
        conv => rhs; rw [hs]
        rw [zip_snoc (by rw [hl]; exact hn'.symm), chain_snoc]
        rfl
theorem rootOf_ok {h : HF} {leaf : List Nat} {i s : Nat} {P : List (List Nat)} (hi : i < s) : (rootOf h leaf P.length i s P).2 = decide (P.length = (dirs i s).length) := (rootOf_spec h leaf P.length i s P rfl hi).1
theorem rootOf_chain {h : HF} {leaf : List Nat} {i s : Nat} {P : List (List Nat)} (hi : i < s) (hl : P.length = (dirs i s).length) : (rootOf h leaf P.length i s P).1 = chain h leaf ((dirs i s).zip P) := (rootOf_spec h leaf P.length i s P rfl hi).2 hl
end Go.Proofs.YtklofjhmgoejiaaFmt.Pl
namespace Go.Proofs.YtklofjhmgoejiaaFmt
open Go.ChangeShapes Go.WideShapes Go.ChangeAt Go.RowKit
set_option maxRecDepth 20000
/-- The last element, as the walk wants it. -/
theorem HashesR.last {w : World} {A : Option Addr} {m n cap : Nat} {L : List (List Nat)} (h : HashesR w (.slice A m cap) L) (hn : L.length = n + 1) :
    ∃ g o A2 c2 n2, A = some ⟨g, o, none⟩ ∧ w.cell? ⟨g, o + n, none⟩ = some (.slice A2 n2 c2) ∧ BytesR w (.slice A2 n2 c2) (L.getD n []) := by
  obtain ⟨A', cap', e, hc, hy, hat⟩ := h
  injection e with e1 e2 e3
  subst e1 e2 e3
  obtain ⟨g, o, rfl, h'⟩ := hat (by omega)
  obtain ⟨u, hu, hb⟩ := h' n (by omega)
  obtain ⟨A2, n2, c2, rfl⟩ := hb.form
  exact ⟨g, o, A2, c2, n2, rfl, hu, by rw [List.getD_eq_getElem?_getD, List.getElem?_eq_getElem (by omega)]; exact hb⟩
theorem bs_ne {l m : List Nat} (hl : Pl.Bytes l) (hm : Pl.Bytes m) (h : l ≠ m) : ((bs l).toList == (bs m).toList) = false := by
  have hn : ¬ (bs l).toList = (bs m).toList := fun e => h (bs_inj hl hm (by
    rw [ByteArray.toList_eq, ByteArray.toList_eq] at e
    cases hl : bs l with | mk a => cases hm : bs m with | mk b => rw [hl, hm] at e; cases a; cases b; simp at e; subst e; rfl))
  simpa using hn
theorem empty_bytes (w : World) : BytesR w (.slice none 0 0) [] := ⟨none, 0, rfl, Nat.le_refl _, fun x hx => by simp at hx, fun h => by simp at h⟩
/-- Bytes and a yes or no. -/
def RetRootOf (w : World) (r : List Nat × Bool) (e : Ending) (w' : World) : Prop := ∃ v, e = .returned (.tuple #[v, .bool r.2]) ∧ BytesR w' v r.1 ∧ Below w.heap.size w w'
set_option maxHeartbeats 2000000 in
theorem rootOf_c (h : Pl.HF) (ok : h.ok) : ∀ (n i s : Nat) (lv v : Value) (ll : List Nat) (P : List (List Nat)) (w : World), P.length = n → n ≤ 2147483647 → i < s → s < 18446744073709551616 → BytesR w lv ll → HashesR w v P →
    Calls Tryf.prog 14 #[hashV h, .int .u64 (i : Int), .int .u64 (s : Int), lv, v] w (RetRootOf w (Pl.rootOf h ll n i s P)) := by
  intro n
  induction n with
  | zero =>
    intro i s lv v ll P w hP hn hi hs hlv hv
    obtain ⟨A, cap, rfl, hc9⟩ := id hv
    obtain ⟨Al, cl, rfl, hc8⟩ := id hlv
    rw [hP]
    have HB := Lib.hid (fun C => (Below.refl w.heap.size w).alloc (Nat.le_refl _) (.cells C 24))
    have HLV := Lib.hid (fun C => hlv.below ((Below.refl w.heap.size w).alloc (Nat.le_refl _) (.cells C 24)))
    clear hc9 hc8 hv hlv
    rw [Pl.rootOf]
    obtain ⟨Ah, Bh, Ch⟩ := h
    unfold hashV
    by_cases h1 : s = 1
    · subst h1
      rw [if_pos rfl]
      clear hi hs
      go_enter Tryf.func14, Tryf.ntmps14
      go_wp2_with fail
      go_ret2
      exact ⟨_, rfl, HLV.out _, HB.out _⟩
    · rw [if_neg h1]
      have hg : ¬ (s : Int) = 1 := by omega
      clear hi hs h1
      go_enter Tryf.func14, Tryf.ntmps14
      go_wp2_with fail
      go_ret2
      exact ⟨_, rfl, empty_bytes _, HB.out _⟩
  | succ n ih =>
    intro i s lv v ll P w hP hn hi hs hlv hv
    obtain ⟨A, cap, rfl, hcap, hc9⟩ := id hv
    obtain ⟨Al, cl, rfl, hc8⟩ := id hlv
    have HB := Lib.hid (fun C => (Below.refl w.heap.size w).alloc (Nat.le_refl _) (.cells C 24))
    have HLV := Lib.hid (fun (W : World) (hb : Below w.heap.size w W) => hlv.below hb)
    by_cases h1 : s = 1
    · subst h1
      rw [Pl.rootOf, if_pos rfl]
      have hg : ¬ (P.length : Int) = 0 := by omega
      clear hc9 hc8 hv hlv hi hs ih hP
      obtain ⟨Ah, Bh, Ch⟩ := h
      unfold hashV
      go_enter Tryf.func14, Tryf.ntmps14
      go_wp2_with fail
      go_ret2
      have hg2 : P ≠ [] := fun e => hg (by rw [e]; rfl)
      exact ⟨_, by simp [hg2], HLV.out _ (HB.out _), HB.out _⟩
    obtain ⟨s1, s2⟩ := Pl.split_spec (show 2 ≤ s by omega)
    have s3 := Pl.split_pos s
    have HS := Lib.hid (fun W => split_c s (by omega) hs W)
    obtain ⟨g, o, A2, c2, n2, rfl, hcl, hlast⟩ := hv.last hP
    have hcl2 := Lib.hid (fun (W : World) (hb : Below w.heap.size w W) => (hb.cell (World.block_lt_of_cell? w _ hcl)).trans hcl)
    have HLast := Lib.hid (fun (W : World) (hb : Below w.heap.size w W) => hlast.below hb)
    have r1 := fun W => hashes_head (some ⟨g, o, none⟩) P.length cap n (by omega) W
    have HT := Lib.hid (fun (W : World) (hb : Below w.heap.size w W) => (hv.head (k := n) (by omega)).below hb)
    have e1 : IntKind.i64.wrap (((n + 1 : Nat) : Int) - 1) = (n : Int) := by rw [IntWalk.i64_in _ (by omega)]; omega
    have hn1 : ¬ ((n + 1 : Nat) : Int) = 0 := by omega
    have hn2 : (n : Int) < ((n + 1 : Nat) : Int) := by omega
    have hPl : (P.take n).length = n := by simp; omega
    have hne : ¬ (s : Int) = 1 := by omega
    have HC := Lib.hid (fun (u1 u2 : Value) (l1 l2 : List Nat) (W : World) (a1 : BytesR W u1 l1) (a2 : BytesR W u2 l2) => children_c h ok u1 u2 l1 l2 W a1 a2)
    rw [hP] at r1 hcap ⊢
    by_cases hk : i < Pl.split s
    · have HI := Lib.hid (fun (W : World) (hb : Below w.heap.size w W) => ih i (Pl.split s) _ _ ll (P.take n) W hPl (by omega) hk (by omega) (HLV.out W hb) (HT.out W hb))
      have HE : Hid (Pl.rootOf h ll (n + 1) i s P = (h.hc (Pl.rootOf h ll n i (Pl.split s) (P.take n)).1 (P.getD n []), (Pl.rootOf h ll n i (Pl.split s) (P.take n)).2)) := by rw [Pl.rootOf, if_neg h1, if_pos hk]; exact rfl
      generalize Pl.rootOf h ll (n + 1) i s P = res at *
      obtain ⟨ra, rb⟩ := res
      generalize Pl.rootOf h ll n i (Pl.split s) (P.take n) = sub at *
      generalize (P.getD n []) = last at *
      generalize (if cap = 0 then some (⟨g, o, none⟩ : Addr) else (some (⟨g, o, none⟩ : Addr)).map (·.add 0)) = A1 at *
      have hk1 : (i : Int) < ((Pl.split s : Nat) : Int) := by omega
      generalize Pl.split s = k at *
      clear hc8 hlv
      generalize ll.length = nl at *
      clear ih hc9 hv hi hs hk s1 s2 s3 hcl hlast hPl h1
      obtain ⟨Ah, Bh, Ch⟩ := h
      unfold hashV at HI HC ⊢
      simp only [] at HI HC ⊢
      have c9 := hcl2.out _ (HB.out #[.int .u32 (Ah : Int), .int .u32 (Bh : Int), .int .u32 (Ch : Int)])
      go_enter Tryf.func14, Tryf.ntmps14
      go_wp2_with fail
      refine (HS.out _).mono ?_; rintro e w' ⟨rfl, rfl⟩
      go_wp2_with fail
      refine (HI.out _ (HB.out _)).mono ?_; rintro e w1 ⟨u1, rfl, hu1, hb1⟩
      have K1 : Blk w1 w.heap.size 24 #[.int .u32 (Ah : Int), .int .u32 (Bh : Int), .int .u32 (Ch : Int)] := (Blk.new w _ _).below' hb1
      have B1 := (HB.out #[.int .u32 (Ah : Int), .int .u32 (Bh : Int), .int .u32 (Ch : Int)]).trans (hb1.mono (by simp))
      obtain ⟨c1, c2', c3, _⟩ := K1.three
      have HU := Lib.hid hu1
      obtain ⟨Au, nu, cu, rfl⟩ := hu1.form
      clear hu1 hb1 K1
      go_wp2_with fail
      refine (HC.out _ _ _ _ _ HU.out (HLast.out _ B1)).mono ?_; rintro e w2 ⟨u2, rfl, hu2, hb2⟩
      have B2 := B1.trans (hb2.mono B1.size)
      have HU2 := Lib.hid hu2
      obtain ⟨Av, nv, cv, rfl⟩ := hu2.form
      clear hu2 hb2 B1 c1 c2' c3
      have he := HE.out
      injection he with he1 he2
      subst he1 he2
      go_wp2_with fail
      go_ret2
      exact ⟨_, rfl, HU2.out, B2⟩
    · have HI := Lib.hid (fun (W : World) (hb : Below w.heap.size w W) => ih (i - Pl.split s) (s - Pl.split s) _ _ ll (P.take n) W hPl (by omega) (by omega) (by omega) (HLV.out W hb) (HT.out W hb))
      have HE : Hid (Pl.rootOf h ll (n + 1) i s P = (h.hc (P.getD n []) (Pl.rootOf h ll n (i - Pl.split s) (s - Pl.split s) (P.take n)).1, (Pl.rootOf h ll n (i - Pl.split s) (s - Pl.split s) (P.take n)).2)) := by rw [Pl.rootOf, if_neg h1, if_neg hk]; exact rfl
      have e2 : IntKind.u64.wrap ((i : Int) - ((Pl.split s : Nat) : Int)) = ((i - Pl.split s : Nat) : Int) := by rw [IntKind.wrap_u64]; omega
      have e3 : IntKind.u64.wrap ((s : Int) - ((Pl.split s : Nat) : Int)) = ((s - Pl.split s : Nat) : Int) := by rw [IntKind.wrap_u64]; omega
      generalize Pl.rootOf h ll (n + 1) i s P = res at *
      obtain ⟨ra, rb⟩ := res
      generalize Pl.rootOf h ll n (i - Pl.split s) (s - Pl.split s) (P.take n) = sub at *
      generalize (P.getD n []) = last at *
      generalize (if cap = 0 then some (⟨g, o, none⟩ : Addr) else (some (⟨g, o, none⟩ : Addr)).map (·.add 0)) = A1 at *
      have hk1 : ¬ (i : Int) < ((Pl.split s : Nat) : Int) := by omega
      generalize i - Pl.split s = i2 at *
      generalize s - Pl.split s = t2 at *
      generalize Pl.split s = k at *
      clear hc8 hlv
      generalize ll.length = nl at *
      clear ih hc9 hv hi hs hk s1 s2 s3 hcl hlast hPl h1
      obtain ⟨Ah, Bh, Ch⟩ := h
      unfold hashV at HI HC ⊢
      simp only [] at HI HC ⊢
      have c9 := hcl2.out _ (HB.out #[.int .u32 (Ah : Int), .int .u32 (Bh : Int), .int .u32 (Ch : Int)])
      go_enter Tryf.func14, Tryf.ntmps14
      go_wp2_with fail
      refine (HS.out _).mono ?_; rintro e w' ⟨rfl, rfl⟩
      go_wp2_with fail
      refine (HI.out _ (HB.out _)).mono ?_; rintro e w1 ⟨u1, rfl, hu1, hb1⟩
      have K1 : Blk w1 w.heap.size 24 #[.int .u32 (Ah : Int), .int .u32 (Bh : Int), .int .u32 (Ch : Int)] := (Blk.new w _ _).below' hb1
      have B1 := (HB.out #[.int .u32 (Ah : Int), .int .u32 (Bh : Int), .int .u32 (Ch : Int)]).trans (hb1.mono (by simp))
      obtain ⟨c1, c2', c3, _⟩ := K1.three
      have HU := Lib.hid hu1
      obtain ⟨Au, nu, cu, rfl⟩ := hu1.form
      clear hu1 hb1 K1
      go_wp2_with fail
      refine (HC.out _ _ _ _ _ (HLast.out _ B1) HU.out).mono ?_; rintro e w2 ⟨u2, rfl, hu2, hb2⟩
      have B2 := B1.trans (hb2.mono B1.size)
      have HU2 := Lib.hid hu2
      obtain ⟨Av, nv, cv, rfl⟩ := hu2.form
      clear hu2 hb2 B1 c1 c2' c3
      have he := HE.out
      injection he with he1 he2
      subst he1 he2
      go_wp2_with fail
      go_ret2
      exact ⟨_, rfl, HU2.out, B2⟩
end Go.Proofs.YtklofjhmgoejiaaFmt
