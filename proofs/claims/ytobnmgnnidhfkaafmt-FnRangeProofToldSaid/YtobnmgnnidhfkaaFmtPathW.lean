/- spec.Path. -/
import Derived.Test.YtobnmgnnidhfkaaFmtMthW
namespace Go.Proofs.YtobnmgnnidhfkaaFmt
open Go.ChangeShapes Go.WideShapes Go.ChangeAt Go.RowKit
set_option maxRecDepth 20000
theorem keepB {w W w' : World} {B : Nat} {x1 x2 x3 v : Value} {L : List (List Nat)} (hv : HashesR w v L) (hB : w.heap.size < B) (hb : Below B W w') (h : SM w w.heap.size x1 x2 x3 v L W) : SM w w.heap.size x1 x2 x3 v L w' :=
  have hbw : Below w.heap.size w w' := h.2.2.2.2.trans (hb.mono (Nat.le_of_lt hB))
  ⟨(hb.cell hB).trans h.1, (hb.cell hB).trans h.2.1, (hb.cell hB).trans h.2.2.1, hv.below hbw, hbw⟩
theorem path_len (h : Pl.HF) (idx : Nat) (D : List (List Nat)) (h1 : idx < D.length) (h2 : D.length < 18446744073709551616) : (Pl.pathL h idx D).length ≤ 1000 := by
  rw [Pl.pathL_length]
  have := Pl.dirs_le h1 h2
  omega
set_option maxHeartbeats 2000000 in
theorem path_c (h : Pl.HF) (ok : h.ok) (n : Nat) : ∀ (v : Value) (L : List (List Nat)) (idx : Nat) (w : World), L.length = n → 1 ≤ n → n ≤ 2147483647 → idx < n → HashesR w v L → Calls Tryf.prog 14 #[hashV h, .int .i64 (idx : Int), v] w (RetBuilt w (Pl.pathL h idx L)) := by
  induction n using Nat.strongRecOn with
  | ind n ih =>
    intro v L idx w hn h1 hle hidx hv
    obtain ⟨A, cap, rfl, hcap, _⟩ := id hv
    by_cases h2 : 2 ≤ n
    · obtain ⟨s1, s2⟩ := Pl.split_spec h2
      have s3 := Pl.split_pos n
      have HS := Lib.hid (fun W => split_c n h2 (by omega) W)
      have r1 := fun W => hashes_head A n cap (Pl.split n) (by omega) W
      have r2 := fun W => hashes_tail A n cap (Pl.split n) (by omega) W
      have e1 : IntKind.i64.wrap ((Pl.split n : Nat) : Int) = ((Pl.split n : Nat) : Int) := IntWalk.i64_in _ (by omega)
      have e2 : IntKind.u64.wrap (n : Int) = (n : Int) := wrapN n (by omega)
      have hne : ¬ (n : Int) = 1 := by omega
      by_cases hi : idx < Pl.split n
      · have hlt : (idx : Int) < ((Pl.split n : Nat) : Int) := by omega
        have HM := Lib.hid (Pl.pathL_l h idx L (by omega) (by rw [hn]; exact hi))
        rw [hn] at HM
        have HP : Hid (∀ (W : World) (x1 x2 x3 : Value), SM w w.heap.size x1 x2 x3 (.slice A L.length cap) L W → Calls Tryf.prog 14 #[hashV h, .int .i64 (idx : Int), .slice (if cap = 0 then A else A.map (·.add 0)) (Pl.split n) cap] W fun e w' => ∃ vp, e = .returned vp ∧ Built w' W.heap.size vp (Pl.pathL h idx (L.take (Pl.split n))) ∧ Below W.heap.size W w' ∧ w.heap.size < W.heap.size) :=
          Lib.hid (fun W _ _ _ S => (ih (Pl.split n) s1 _ (L.take (Pl.split n)) idx W (by simp; omega) (by omega) (by omega) hi (S.2.2.2.1.head (by omega))).mono fun _ _ ⟨v, e, b1, b2⟩ => ⟨v, e, b1, b2, World.block_lt_of_cell? W _ S.1⟩)
        have HR : Hid (∀ (W : World) (x1 x2 x3 : Value), SM w w.heap.size x1 x2 x3 (.slice A L.length cap) L W → Calls Tryf.prog 28 #[hashV h, .slice (if cap = Pl.split n then A else A.map (·.add (Pl.split n * 1))) (n - Pl.split n) (cap - Pl.split n)] W (RetBytesE w.heap.size W (Pl.mth h (L.drop (Pl.split n))))) :=
          Lib.hid (fun W _ _ _ S => mth_e h ok w (n - Pl.split n) _ (L.drop (Pl.split n)) W (by simp; omega) (by omega) (by omega) (by have := hv.tail (k := Pl.split n) (by omega); rwa [hn] at this) S.2.2.2.2)
        have HLn : Hid ((Pl.pathL h idx (L.take (Pl.split n))).length ≤ 2147483647) := Lib.hid (by
          have h0 : (Pl.pathL h idx L).length = (Pl.pathL h idx (L.take (Pl.split n))).length + 1 := by rw [HM.out]; simp
          have h1 := path_len h idx L (by omega) (by omega)
          omega)
        rw [hn] at HP HR ⊢
        have HV := Lib.hid hv
        rw [hn] at HV
        generalize Pl.pathL h idx L = res at HM ⊢
        generalize Pl.pathL h idx (L.take (Pl.split n)) = LP at HM HP HLn
        generalize Pl.mth h (L.drop (Pl.split n)) = l1 at HM HR
        clear ih hv
        generalize (if cap = 0 then A else A.map (·.add 0)) = A1 at *
        generalize (if cap = Pl.split n then A else A.map (·.add (Pl.split n * 1))) = A2 at *
        have hk64 : ((Pl.split n : Nat) : Int) ≤ (n : Int) := by omega
        clear s1 s2 s3 h1 h2 hcap hidx hi
        generalize Pl.split n = k at *
        obtain ⟨Ah, Bh, Ch⟩ := h
        unfold hashV at HP HR ⊢
        simp only [] at HP HR ⊢
        go_enter Tryf.func14, Tryf.ntmps14
        go_wp2_with fail
        refine (HS.out _).mono ?_; rintro e w1 ⟨rfl, rfl⟩
        go_wp2_with fail
        have B0 : Below w.heap.size w (w.alloc (.cells #[.int .u32 (Ah : Int), .int .u32 (Bh : Int), .int .u32 (Ch : Int)] 24)).drew := ((Below.refl _ _).alloc (Nat.le_refl _) _).drew
        have S0 : SM w w.heap.size (.int .u32 (Ah : Int)) (.int .u32 (Bh : Int)) (.int .u32 (Ch : Int)) (.slice A n cap) L (w.alloc (.cells #[.int .u32 (Ah : Int), .int .u32 (Bh : Int), .int .u32 (Ch : Int)] 24)).drew := ⟨by simp, by simp, by simp, HV.out.below B0, B0⟩
        have HKB : Hid (∀ (B : Nat) (W w' : World) (x1 x2 x3 : Value), w.heap.size < B → Below B W w' → SM w w.heap.size x1 x2 x3 (.slice A n cap) L W → SM w w.heap.size x1 x2 x3 (.slice A n cap) L w') := Lib.hid (fun B W w' _ _ _ hB hb S => keepB HV.out hB hb S)
        generalize hg0 : w.heap.size = g0 at *
        have HG : Hid (w.heap.size = g0) := hg0
        clear hg0 HV
        go_region_held_law (fun w' => w'.cell? ⟨g0, 0, none⟩ = some (.int .u32 (Ah : Int)) ∧ w'.cell? ⟨g0, 1, none⟩ = some (.int .u32 (Bh : Int)) ∧ w'.cell? ⟨g0, 2, none⟩ = some (.int .u32 (Ch : Int)) ∧ HashesR w' (.slice A n cap) L ∧ Below g0 w w')
          (first | assumption | exact S0 | exact keepM hbm (by assumption) | exact keepM hbp (by assumption) | exact keepM ((Below.refl _ _).alloc (Nat.le_refl _) _) (by assumption) | exact HKB.out _ _ _ _ _ _ hlt1 hb5 (by assumption))
          (first
            | (go_at_call 14; refine (HP.out _ (.int .u32 (Ah : Int)) (.int .u32 (Bh : Int)) (.int .u32 (Ch : Int)) (by assumption)).mono ?_; rintro e w' ⟨vp, rfl, hp, hbp, hlt1⟩; obtain ⟨Ap, cp, rfl, hgp⟩ := hp.form)
            | (go_at_call 28; refine (HR.out _ (.int .u32 (Ah : Int)) (.int .u32 (Bh : Int)) (.int .u32 (Ch : Int)) (by assumption)).mono ?_; rintro e w' ⟨u1, rfl, hu1, hbm, ha⟩; obtain ⟨Au, nu, cu, rfl⟩ := hu1.form)
            | (refine step_append_built rfl 32 rfl (.tmp 25) (.tmp 31) rfl _ _ LP (by first | exact (hp.below hbm).below ((Below.refl _ _).alloc (Nat.le_refl _) _) | exact hp.below ((Below.refl _ _).alloc (Nat.le_refl _) _) | exact hp) rfl _ (.slice Au nu cu) l1 rfl (by first | (simp; done) | exact (hbp.cell (by simp)).trans (by simp))
                (by first | exact hu1.below ((Below.refl _ _).alloc (Nat.le_refl _) _) | exact (hu1.below hbp).below ((Below.refl _ _).alloc (Nat.le_refl _) _) | exact (hu1.below ((Below.refl _ _).alloc (Nat.le_refl _) _)).below hbp)
                (fun hl g hg => by first | exact ha.off hl (by have := (hgp g hg).1; omega) (by have := (hgp g hg).2; omega) | exact Off.elder hu1 hl (by have := (hgp g hg).1; simp at this; omega))
                HLn.out (by first | exact hbp.size | (have h1 := hbp.size; have h2 := hbm.size; simp only [World.size_alloc]; omega)) ?_; intro g5 cap5 w5 hB5 hb5))
        all_goals
          have hB : w5.cell? ⟨g0, 0, none⟩ = some (.int .u32 (Ah : Int)) ∧ w5.cell? ⟨g0, 1, none⟩ = some (.int .u32 (Bh : Int)) ∧ w5.cell? ⟨g0, 2, none⟩ = some (.int .u32 (Ch : Int)) ∧ HashesR w5 (.slice A n cap) L ∧ Below g0 w w5 := by assumption
          have hlt2 := Nat.le_of_lt hlt1
          clear B0 S0 HKB HP HR HS hp hu1 ha hbm hbp hb5 hgp hlt1
          go_wp2
          go_ret
          exact ⟨_, rfl, by rw [HM.out, HG.out]; exact hB5.mono hlt2, by rw [HG.out]; exact hB.2.2.2.2⟩
      · have hlt : ¬ (idx : Int) < ((Pl.split n : Nat) : Int) := by omega
        have e3 : IntKind.i64.wrap ((idx : Int) - ((Pl.split n : Nat) : Int)) = ((idx - Pl.split n : Nat) : Int) := by rw [IntWalk.i64_in _ (by omega)]; omega
        have HM := Lib.hid (Pl.pathL_r h idx L (by omega) (by omega) (by rw [hn]; exact hi))
        rw [hn] at HM
        have HP : Hid (∀ (W : World) (x1 x2 x3 : Value), SM w w.heap.size x1 x2 x3 (.slice A L.length cap) L W → Calls Tryf.prog 14 #[hashV h, .int .i64 ((idx - Pl.split n : Nat) : Int), .slice (if cap = Pl.split n then A else A.map (·.add (Pl.split n * 1))) (n - Pl.split n) (cap - Pl.split n)] W fun e w' => ∃ vp, e = .returned vp ∧ Built w' W.heap.size vp (Pl.pathL h (idx - Pl.split n) (L.drop (Pl.split n))) ∧ Below W.heap.size W w' ∧ w.heap.size < W.heap.size) :=
          Lib.hid (fun W _ _ _ S => (ih (n - Pl.split n) (by omega) _ (L.drop (Pl.split n)) (idx - Pl.split n) W (by simp; omega) (by omega) (by omega) (by omega) (by have := S.2.2.2.1.tail (k := Pl.split n) (by omega); rwa [hn] at this)).mono fun _ _ ⟨v, e, b1, b2⟩ => ⟨v, e, b1, b2, World.block_lt_of_cell? W _ S.1⟩)
        have HR : Hid (∀ (W : World) (x1 x2 x3 : Value), SM w w.heap.size x1 x2 x3 (.slice A L.length cap) L W → Calls Tryf.prog 28 #[hashV h, .slice (if cap = 0 then A else A.map (·.add 0)) (Pl.split n) cap] W (RetBytesE w.heap.size W (Pl.mth h (L.take (Pl.split n))))) :=
          Lib.hid (fun W _ _ _ S => mth_e h ok w (Pl.split n) _ (L.take (Pl.split n)) W (by simp; omega) (by omega) (by omega) (hv.head (by omega)) S.2.2.2.2)
        have HLn : Hid ((Pl.pathL h (idx - Pl.split n) (L.drop (Pl.split n))).length ≤ 2147483647) := Lib.hid (by
          have h0 : (Pl.pathL h idx L).length = (Pl.pathL h (idx - Pl.split n) (L.drop (Pl.split n))).length + 1 := by rw [HM.out]; simp
          have h1 := path_len h idx L (by omega) (by omega)
          omega)
        rw [hn] at HP HR ⊢
        have HV := Lib.hid hv
        rw [hn] at HV
        generalize Pl.pathL h idx L = res at HM ⊢
        generalize Pl.pathL h (idx - Pl.split n) (L.drop (Pl.split n)) = LP at HM HP HLn
        generalize Pl.mth h (L.take (Pl.split n)) = l1 at HM HR
        generalize idx - Pl.split n = idx2 at *
        clear ih hv
        generalize (if cap = 0 then A else A.map (·.add 0)) = A1 at *
        generalize (if cap = Pl.split n then A else A.map (·.add (Pl.split n * 1))) = A2 at *
        have hk64 : ((Pl.split n : Nat) : Int) ≤ (n : Int) := by omega
        clear s1 s2 s3 h1 h2 hcap hidx hi
        generalize Pl.split n = k at *
        obtain ⟨Ah, Bh, Ch⟩ := h
        unfold hashV at HP HR ⊢
        simp only [] at HP HR ⊢
        go_enter Tryf.func14, Tryf.ntmps14
        go_wp2_with fail
        refine (HS.out _).mono ?_; rintro e w1 ⟨rfl, rfl⟩
        go_wp2_with fail
        have B0 : Below w.heap.size w (w.alloc (.cells #[.int .u32 (Ah : Int), .int .u32 (Bh : Int), .int .u32 (Ch : Int)] 24)).drew := ((Below.refl _ _).alloc (Nat.le_refl _) _).drew
        have S0 : SM w w.heap.size (.int .u32 (Ah : Int)) (.int .u32 (Bh : Int)) (.int .u32 (Ch : Int)) (.slice A n cap) L (w.alloc (.cells #[.int .u32 (Ah : Int), .int .u32 (Bh : Int), .int .u32 (Ch : Int)] 24)).drew := ⟨by simp, by simp, by simp, HV.out.below B0, B0⟩
        have HKB : Hid (∀ (B : Nat) (W w' : World) (x1 x2 x3 : Value), w.heap.size < B → Below B W w' → SM w w.heap.size x1 x2 x3 (.slice A n cap) L W → SM w w.heap.size x1 x2 x3 (.slice A n cap) L w') := Lib.hid (fun B W w' _ _ _ hB hb S => keepB HV.out hB hb S)
        generalize hg0 : w.heap.size = g0 at *
        have HG : Hid (w.heap.size = g0) := hg0
        clear hg0 HV
        go_region_held_law (fun w' => w'.cell? ⟨g0, 0, none⟩ = some (.int .u32 (Ah : Int)) ∧ w'.cell? ⟨g0, 1, none⟩ = some (.int .u32 (Bh : Int)) ∧ w'.cell? ⟨g0, 2, none⟩ = some (.int .u32 (Ch : Int)) ∧ HashesR w' (.slice A n cap) L ∧ Below g0 w w')
          (first | assumption | exact S0 | exact keepM hbm (by assumption) | exact keepM hbp (by assumption) | exact keepM ((Below.refl _ _).alloc (Nat.le_refl _) _) (by assumption) | exact HKB.out _ _ _ _ _ _ hlt1 hb5 (by assumption))
          (first
            | (go_at_call 14; refine (HP.out _ (.int .u32 (Ah : Int)) (.int .u32 (Bh : Int)) (.int .u32 (Ch : Int)) (by assumption)).mono ?_; rintro e w' ⟨vp, rfl, hp, hbp, hlt1⟩; obtain ⟨Ap, cp, rfl, hgp⟩ := hp.form)
            | (go_at_call 28; refine (HR.out _ (.int .u32 (Ah : Int)) (.int .u32 (Bh : Int)) (.int .u32 (Ch : Int)) (by assumption)).mono ?_; rintro e w' ⟨u1, rfl, hu1, hbm, ha⟩; obtain ⟨Au, nu, cu, rfl⟩ := hu1.form)
            | (refine step_append_built rfl 47 rfl (.tmp 40) (.tmp 46) rfl _ _ LP (by first | exact (hp.below hbm).below ((Below.refl _ _).alloc (Nat.le_refl _) _) | exact hp.below ((Below.refl _ _).alloc (Nat.le_refl _) _) | exact hp) rfl _ (.slice Au nu cu) l1 rfl (by first | (simp; done) | exact (hbp.cell (by simp)).trans (by simp))
                (by first | exact hu1.below ((Below.refl _ _).alloc (Nat.le_refl _) _) | exact (hu1.below hbp).below ((Below.refl _ _).alloc (Nat.le_refl _) _) | exact (hu1.below ((Below.refl _ _).alloc (Nat.le_refl _) _)).below hbp)
                (fun hl g hg => by first | exact ha.off hl (by have := (hgp g hg).1; omega) (by have := (hgp g hg).2; omega) | exact Off.elder hu1 hl (by have := (hgp g hg).1; simp at this; omega))
                HLn.out (by first | exact hbp.size | (have h1 := hbp.size; have h2 := hbm.size; simp only [World.size_alloc]; omega)) ?_; intro g5 cap5 w5 hB5 hb5))
        all_goals
          have hB : w5.cell? ⟨g0, 0, none⟩ = some (.int .u32 (Ah : Int)) ∧ w5.cell? ⟨g0, 1, none⟩ = some (.int .u32 (Bh : Int)) ∧ w5.cell? ⟨g0, 2, none⟩ = some (.int .u32 (Ch : Int)) ∧ HashesR w5 (.slice A n cap) L ∧ Below g0 w w5 := by assumption
          have hlt2 := Nat.le_of_lt hlt1
          clear B0 S0 HKB HP HR HS hp hu1 ha hbm hbp hb5 hgp hlt1
          go_wp2
          go_ret
          exact ⟨_, rfl, by rw [HM.out, HG.out]; exact hB5.mono hlt2, by rw [HG.out]; exact hB.2.2.2.2⟩
    · obtain rfl : n = 1 := by omega
      have HM := Lib.hid (Pl.pathL_one h idx L hn)
      generalize Pl.pathL h idx L = res at HM ⊢
      rw [hn]
      obtain ⟨Ah, Bh, Ch⟩ := h
      unfold hashV
      simp only []
      clear ih hv h1 h2 hcap
      go_enter Tryf.func14, Tryf.ntmps14
      go_wp2_with fail
      go_ret
      have hb := (Below.refl w.heap.size w).alloc (Nat.le_refl _) (.cells #[.int .u32 (Ah : Int), .int .u32 (Bh : Int), .int .u32 (Ch : Int)] 24)
      have ho := World.ownsRow_lit (base := w.heap.size) (e := 26) (size := 1) (w.alloc (.cells #[.int .u32 (Ah : Int), .int .u32 (Bh : Int), .int .u32 (Ch : Int)] 24)) #[] 0 hb.size (by unfold maxLen; omega) rfl
      rw [World.size_alloc] at ho
      exact ⟨.slice (some ⟨w.heap.size + 1, 0, none⟩) 0 0, rfl, by rw [HM.out]; exact Built.nil ho, hb.alloc hb.size _⟩
end Go.Proofs.YtobnmgnnidhfkaaFmt
/- spec.subproof. -/
namespace Go.Proofs.YtobnmgnnidhfkaaFmt
open Go.ChangeShapes Go.WideShapes Go.ChangeAt Go.RowKit
set_option maxRecDepth 20000
theorem cproof_le (m n : Nat) : ∀ (a : Nat) (wh : Bool), 1 ≤ n → (Pl.cproof a m n wh).length ≤ n := by
  induction n using Nat.strongRecOn generalizing m with
  | ind n ih =>
    intro a wh h1
    by_cases he : m = n
    · subst he; rw [Pl.cproof_eq]; cases wh <;> simp; omega
    · by_cases hn : 2 ≤ n
      · have s := Pl.split_spec hn
        have s3 := Pl.split_pos n
        by_cases hi : m ≤ Pl.split n
        · rw [Pl.cproof_l he hn hi, List.length_append]; have := ih _ s.1 m a wh s3; simp; omega
        · rw [Pl.cproof_r he hn hi, List.length_append]; have := ih (n - Pl.split n) (by omega) (m - Pl.split n) (a + Pl.split n) false (by omega); simp; omega
      · rw [Pl.cproof, if_neg he, dif_pos (by omega)]; simp
theorem proof_len (h : Pl.HF) (m : Nat) (D : List (List Nat)) (wh : Bool) (h1 : 1 ≤ D.length) : (Pl.proofL h m D wh).length ≤ D.length := by
  unfold Pl.proofL
  rw [Pl.hl_length]
  exact cproof_le m D.length 0 wh h1
theorem Built.one {w : World} {u : Value} {l : List Nat} {base : Nat} (hu : BytesR w u l) (hb : base ≤ w.heap.size) : Built (w.alloc (.cells #[u] 26)) base (.slice (some ⟨w.heap.size, 0, none⟩) 1 1) [l] := by
  have ho := World.ownsRow_lit (base := base) (e := 26) (size := 1) w #[u] 1 hb (by unfold maxLen; omega) rfl
  refine ⟨[u], ho, rfl, fun k x y hx hy => ?_⟩
  match k, hx, hy with
  | 0, hx, hy =>
    simp at hx hy
    subst hx hy
    exact ⟨hu.below ((Below.refl _ _).alloc (Nat.le_refl _) _), fun hl g hg => by
      have hg' : some w.heap.size = some g := hg
      injection hg' with hg'
      exact Off.elder hu hl (by omega)⟩
end Go.Proofs.YtobnmgnnidhfkaaFmt
