/- spec.MTH. -/
import Derived.Test.YtpdmmmcelkinjaaFmtAppend
import Derived.Test.YtpdmmmcelkinjaaFmtRootP
import Derived.Test.YtpdmmmcelkinjaaFmtSplit
import Derived.Test.YtpdmmmcelkinjaaFmtMth
import Derived.Deep.AppendLies
import Derived.Deep.RegionHeldLaw
namespace Go.Proofs.YtpdmmmcelkinjaaFmt
open Go.ChangeShapes Go.WideShapes Go.ChangeAt Go.RowKit
set_option maxRecDepth 20000
abbrev SM (w : World) (g0 : Nat) (x1 x2 x3 v : Value) (L : List (List Nat)) (w' : World) : Prop := w'.cell? ⟨g0, 0, none⟩ = some x1 ∧ w'.cell? ⟨g0, 1, none⟩ = some x2 ∧ w'.cell? ⟨g0, 2, none⟩ = some x3 ∧ HashesR w' v L ∧ Below g0 w w'
theorem keepM {w W w' : World} {g0 : Nat} {x1 x2 x3 v : Value} {L : List (List Nat)} (hb : Below W.heap.size W w') (h : SM w g0 x1 x2 x3 v L W) : SM w g0 x1 x2 x3 v L w' :=
  have up : ∀ {p : Addr} {v : Value}, W.cell? p = some v → w'.cell? p = some v := fun {p} {_} h => (hb.cell (World.block_lt_of_cell? W p h)).trans h
  ⟨up h.1, up h.2.1, up h.2.2.1, h.2.2.2.1.below hb, h.2.2.2.2.trans (hb.mono (Nat.le_of_lt (World.block_lt_of_cell? W _ h.1)))⟩
/-- Where bytes may lie that a call has given: in what stood before a, or in what was made from b on. -/
def Apart (a b : Nat) (l : List Nat) (u : Value) : Prop := 0 < l.length → ∀ A n c, u = .slice (some A) n c → A.block < a ∨ b ≤ A.block
def RetBytesE (a : Nat) (w : World) (l : List Nat) (e : Ending) (w' : World) : Prop := ∃ v, e = .returned v ∧ BytesR w' v l ∧ Below w.heap.size w w' ∧ Apart a w.heap.size l v
set_option maxHeartbeats 1000000 in
theorem mth_e (h : Pl.HF) (ok : h.ok) (W0 : World) (n : Nat) : ∀ (v : Value) (L : List (List Nat)) (w : World), L.length = n → 1 ≤ n → n ≤ 2147483647 → HashesR W0 v L → Below W0.heap.size W0 w → Calls Tryf.prog 18 #[hashV h, v] w (RetBytesE W0.heap.size w (Pl.mth h L)) := by
  induction n using Nat.strongRecOn with
  | ind n ih =>
    intro v L w hn h1 hle hv0 hb0
    have hv := hv0.below hb0
    obtain ⟨A, cap, rfl, hcap, _⟩ := id hv
    by_cases h2 : 2 ≤ n
    · obtain ⟨s1, s2⟩ := Pl.split_spec h2
      have s3 := Pl.split_pos n
      have HM := Lib.hid (Pl.mth_split h L (by omega))
      rw [hn] at HM
      have HS := Lib.hid (fun W => split_c n h2 (by omega) W)
      have r1 := fun W => hashes_head A n cap (Pl.split n) (by omega) W
      have r2 := fun W => hashes_tail A n cap (Pl.split n) (by omega) W
      have HL := Lib.hid (fun (W : World) (x1 x2 x3 : Value) (S : SM w w.heap.size x1 x2 x3 (.slice A L.length cap) L W) => ih (Pl.split n) s1 _ (L.take (Pl.split n)) W (by simp; omega) (by omega) (by omega) (hv0.head (by omega)) (hb0.trans (S.2.2.2.2.mono hb0.size)))
      have HR := Lib.hid (fun (W : World) (x1 x2 x3 : Value) (S : SM w w.heap.size x1 x2 x3 (.slice A L.length cap) L W) => ih (n - Pl.split n) (by omega) _ (L.drop (Pl.split n)) W (by simp; omega) (by omega) (by omega) (hv0.tail (k := Pl.split n) (by omega)) (hb0.trans (S.2.2.2.2.mono hb0.size)))
      have HC : Hid (∀ (u1 u2 : Value) (W : World) (x1 x2 x3 : Value), SM w w.heap.size x1 x2 x3 (.slice A L.length cap) L W → BytesR W u1 (Pl.mth h (L.take (Pl.split n))) → BytesR W u2 (Pl.mth h (L.drop (Pl.split n))) → Calls Tryf.prog 27 #[hashV h, u1, u2] W fun e w' => ∃ v, e = .returned v ∧ BytesR w' v (h.hc (Pl.mth h (L.take (Pl.split n))) (Pl.mth h (L.drop (Pl.split n)))) ∧ Below W.heap.size W w' ∧ NewV w.heap.size v) := Lib.hid (fun u1 u2 W _ _ _ S a1 a2 => (children_n h ok u1 u2 _ _ W a1 a2).mono fun _ _ ⟨v, e, b1, b2, b3⟩ => ⟨v, e, b1, b2, b3.mono S.2.2.2.2.size⟩)
      have e1 : IntKind.i64.wrap ((Pl.split n : Nat) : Int) = ((Pl.split n : Nat) : Int) := IntWalk.i64_in _ (by omega)
      have e2 : IntKind.u64.wrap (n : Int) = (n : Int) := wrapN n (by omega)
      clear ih
      have hne : ¬ (n : Int) = 1 := by omega
      have HV := Lib.hid hv
      rw [hn] at HL HR HC ⊢
      clear hv
      generalize Pl.mth h L = res at HM ⊢
      generalize Pl.mth h (L.take (Pl.split n)) = l1 at *
      generalize Pl.mth h (L.drop (Pl.split n)) = l2 at *
      generalize (if cap = 0 then A else A.map (·.add 0)) = A1 at *
      generalize (if cap = Pl.split n then A else A.map (·.add (Pl.split n * 1))) = A2 at *
      have hk64 : ((Pl.split n : Nat) : Int) ≤ (n : Int) := by omega
      rw [hn] at HV
      generalize Pl.split n = k at *
      obtain ⟨Ah, Bh, Ch⟩ := h
      unfold hashV at HL HR HC ⊢
      simp only [] at HL HR HC ⊢
      clear s1 s2 s3 h1 h2 hcap hv0 hb0
      go_enter Tryf.func18, Tryf.ntmps18
      go_wp2_with fail
      refine (HS.out _).mono ?_; rintro e w1 ⟨rfl, rfl⟩
      go_wp2_with fail
      have B0 : Below w.heap.size w (w.alloc (.cells #[.int .u32 (Ah : Int), .int .u32 (Bh : Int), .int .u32 (Ch : Int)] 24)).drew := ((Below.refl _ _).alloc (Nat.le_refl _) _).drew
      have S0 : SM w w.heap.size (.int .u32 (Ah : Int)) (.int .u32 (Bh : Int)) (.int .u32 (Ch : Int)) (.slice A n cap) L (w.alloc (.cells #[.int .u32 (Ah : Int), .int .u32 (Bh : Int), .int .u32 (Ch : Int)] 24)).drew := ⟨by simp, by simp, by simp, HV.out.below B0, B0⟩
      generalize hg0 : w.heap.size = g0 at *
      have HG : Hid (w.heap.size = g0) := hg0
      clear hg0 HV
      go_region_held3 (fun w' => w'.cell? ⟨g0, 0, none⟩ = some (.int .u32 (Ah : Int)) ∧ w'.cell? ⟨g0, 1, none⟩ = some (.int .u32 (Bh : Int)) ∧ w'.cell? ⟨g0, 2, none⟩ = some (.int .u32 (Ch : Int)) ∧ HashesR w' (.slice A n cap) L ∧ Below g0 w w')
        (first | assumption | exact S0 | exact keepM hb (by assumption))
        (first
          | (go_at_call_of 18 A1; refine (HL.out _ (.int .u32 (Ah : Int)) (.int .u32 (Bh : Int)) (.int .u32 (Ch : Int)) (by assumption)).mono ?_; rintro e w' ⟨u1, rfl, hu1, hb, _⟩)
          | (go_at_call_of 18 A2; refine (HR.out _ (.int .u32 (Ah : Int)) (.int .u32 (Bh : Int)) (.int .u32 (Ch : Int)) (by assumption)).mono ?_; rintro e w' ⟨u2, rfl, hu2, hb, _⟩)
          | (go_at_call 27; refine (HC.out u1 u2 _ (.int .u32 (Ah : Int)) (.int .u32 (Bh : Int)) (.int .u32 (Ch : Int)) (by assumption) (by first | assumption | exact hu1.below hb) (by first | assumption | exact hu2.below hb)).mono ?_; rintro e w' ⟨u3, rfl, hu3, hb, hnew⟩))
      all_goals
        obtain ⟨_, _, _, _, hB⟩ : w'.cell? ⟨g0, 0, none⟩ = some (.int .u32 (Ah : Int)) ∧ w'.cell? ⟨g0, 1, none⟩ = some (.int .u32 (Bh : Int)) ∧ w'.cell? ⟨g0, 2, none⟩ = some (.int .u32 (Ch : Int)) ∧ HashesR w' (.slice A n cap) L ∧ Below g0 w w' := by assumption
        clear B0 S0 hb hu1 hu2 HC HL HR HS
        go_wp2
        go_ret
        exact ⟨_, rfl, by rw [HM.out]; exact hu3, HG.out ▸ hB, fun _ A n c e => .inr (by rw [HG.out]; exact hnew A n c e)⟩
    · obtain rfl : n = 1 := by omega
      obtain ⟨g, o, A2, c2, rfl, hc, hb⟩ := hv.at 0 (by omega)
      have HB := Lib.hid hb
      have HM0 : Hid (0 < L[0].length → ∀ A n c, Value.slice A2 L[0].length c2 = .slice (some A) n c → A.block < W0.heap.size) := Lib.hid (fun hp A n c e => by
        obtain ⟨g', o', A3, c3, e1, h1, h2⟩ := hv0.at 0 (by omega)
        injection e1 with e1; injection e1 with e1 e2; subst e1 e2
        have h1 := (hb0.cell (World.block_lt_of_cell? W0 _ h1)).trans h1
        rw [hc] at h1
        injection h1 with h1
        rw [← h1, e] at h2
        exact BytesR.lt h2 hp)
      have HM : Hid (Pl.mth h L = L[0]) := Lib.hid (by
        match L, hn with
        | [x], _ => exact Pl.mth_one h x)
      rw [hn]
      generalize Pl.mth h L = res at HM ⊢
      generalize L[0] = l at hc HB HM HM0
      rw [Nat.add_zero] at hc
      obtain ⟨Ah, Bh, Ch⟩ := h
      unfold hashV
      simp only []
      have hlt : g < w.heap.size := World.block_lt_of_cell? w _ hc
      clear ih hb hv h1 h2 hcap hv0 hb0
      go_enter Tryf.func18, Tryf.ntmps18
      go_wp2_with fail
      go_ret
      exact ⟨_, rfl, by rw [HM.out]; exact HB.out.below ((Below.refl _ _).alloc (Nat.le_refl _) _), (Below.refl _ _).alloc (Nat.le_refl _) _, fun hp A n c e => .inl (HM0.out (by rw [← HM.out]; exact hp) A n c e)⟩
theorem mth_c (h : Pl.HF) (ok : h.ok) (v : Value) (L : List (List Nat)) (w : World) (h1 : 1 ≤ L.length) (h2 : L.length ≤ 2147483647) (hv : HashesR w v L) : Calls Tryf.prog 18 #[hashV h, v] w (RetBytes w (Pl.mth h L)) :=
  (mth_e h ok w L.length v L w rfl h1 h2 hv (Below.refl _ _)).mono fun _ _ ⟨v, e, a, b, _⟩ => ⟨v, e, a, b⟩
end Go.Proofs.YtpdmmmcelkinjaaFmt
/- append of one hash to a list of one's own: as one step of a region, and as a step of the walk. -/
namespace Go.Proofs.YtpdmmmcelkinjaaFmt
open Go.ChangeShapes Go.WideShapes Go.ChangeAt Go.RowKit
set_option maxRecDepth 20000
theorem Built.mono {w : World} {b b' : Nat} {v : Value} {L : List (List Nat)} (h : Built w b v L) (hb : b' ≤ b) : Built w b' v L := by
  obtain ⟨us, ho, h⟩ := h
  exact ⟨us, ho.mono hb, h⟩
theorem Built.form {w : World} {b : Nat} {v : Value} {L : List (List Nat)} (h : Built w b v L) : ∃ A c, v = .slice A L.length c ∧ ∀ g, v.ownBlock = some g → b ≤ g ∧ g < w.heap.size := by
  obtain ⟨us, ho, h⟩ := h
  obtain ⟨A, c, rfl, _⟩ := own_slice ho
  exact ⟨A, c, rfl, fun g hg => ho.lt g hg⟩
theorem Off.elder {w : World} {u : Value} {l : List Nat} {g : Nat} (h : BytesR w u l) (hl : 0 < l.length) (hg : w.heap.size ≤ g) : Off g u := fun A n c e => by
  subst e
  have := h.lt hl
  omega
theorem Apart.off {a b g : Nat} {u : Value} {l : List Nat} (h : Apart a b l u) (hl : 0 < l.length) (h1 : a ≤ g) (h2 : g < b) : Off g u := fun A n c e => by
  rcases h hl A n c e with h | h <;> omega
theorem step_append_built {w : World} {ops : Array Oper} {o : Oper} {a : Act} {K : Act → World → Prop} {Q : Exit → Act → World → Prop} {E : Prop} (hgd : o.guard = none) (d : Nat) (hd : o.dst = some d) (s x : Operand)
    (ho : o.op = .call { callee := .builtin .append, args := #[s, x], argTypes := #[25, 25] }) (base : Nat) (v : Value) (L : List (List Nat)) (hp : Built w base v L) (hs : a.eval s = v) (gB : Nat) (u : Value) (l : List Nat)
    (hx : a.eval x = .slice (some ⟨gB, 0, none⟩) 1 1) (hcell : w.cell? ⟨gB, 0, none⟩ = some u) (hu : BytesR w u l) (hoff : 0 < l.length → ∀ g, v.ownBlock = some g → Off g u) (hle : L.length ≤ 2147483647) (hbase : base ≤ w.heap.size)
    (h : ∀ g cap w', Built w' base (.slice (some ⟨g, 0, none⟩) (L.length + 1) cap) (L ++ [l]) → Below base w w' → K (a.put (some d) (.slice (some ⟨g, 0, none⟩) (L.length + 1) cap)) w') :
    if Region.wanted o (yielded ops a.tmps) = true then Oper.wp Tryf.prog o a w K Q else E := by
  obtain ⟨i0, hi, hz0, hz1, hz2⟩ := info_parts bytesInfo
  obtain ⟨us, hown, hul, hus⟩ := hp
  rw [← hd] at h
  have h1 : ∀ c ∈ [u], c.oneCell' = true := by
    obtain ⟨A, n, c, rfl⟩ := hu.form
    simp [Value.oneCell']
  refine step_append_lies w hgd s x 25 ho base 28 i0 (.slice none 0 0) 1 24 Tryf.underlying25 hi hz0 hz1 hz2 rfl (by decide) v L.length us hs hown ⟨gB, 0, none⟩ 1 1 [u] hx rfl (fun j c hj => ?_) h1 (by decide) (by unfold maxLen; omega) (by omega) hbase _ rfl (fun g cap w' hown' hgrow hat hlt => ?_)
  · match j, hj with
    | 0, hj => simp at hj; subst hj; rw [show ((⟨gB, 0, none⟩ : Addr).add 0) = ⟨gB, 0, none⟩ by unfold Addr.add; split <;> simp_all]; exact hcell
  · refine h g cap w' (Built.push hul hus hu hoff hown' hgrow ?_) ((Below.refl _ _).grown hgrow hbase (fun k hk => (hown.lt k hk).1))
    rcases hat with e | e
    · exact .inl (by rw [e]; rfl)
    · exact .inr (by rw [e]; rfl)
theorem wpList_append_built {w : World} {ops : Array Oper} {rest : List Oper} {o : Oper} {a : Act} {Q : Exit → Act → World → Prop} (hgd : o.guard = none) (s x : Operand)
    (ho : o.op = .call { callee := .builtin .append, args := #[s, x], argTypes := #[25, 25] }) (base : Nat) (v : Value) (L : List (List Nat)) (hp : Built w base v L) (hs : a.eval s = v) (gB : Nat) (u : Value) (l : List Nat)
    (hx : a.eval x = .slice (some ⟨gB, 0, none⟩) 1 1) (hcell : w.cell? ⟨gB, 0, none⟩ = some u) (hu : BytesR w u l) (hoff : 0 < l.length → ∀ g, v.ownBlock = some g → Off g u) (hle : L.length ≤ 2147483647) (hbase : base ≤ w.heap.size)
    (h : ∀ A cap w', Built w' base (.slice A (L.length + 1) cap) (L ++ [l]) → Below base w w' → wpList Tryf.prog ops Q rest (a.put o.dst (.slice A (L.length + 1) cap)) w') :
    wpList Tryf.prog ops Q (o :: rest) a w := by
  obtain ⟨i0, hi, hz0, hz1, hz2⟩ := info_parts bytesInfo
  obtain ⟨us, hown, hul, hus⟩ := hp
  have h1 : ∀ c ∈ [u], c.oneCell' = true := by
    obtain ⟨A, n, c, rfl⟩ := hu.form
    simp [Value.oneCell']
  refine wpList_append_own_at w hgd s x 25 ho base 28 i0 (.slice none 0 0) 1 24 Tryf.underlying25 hi hz0 hz1 hz2 rfl (by decide) v L.length us hs hown ⟨gB, 0, none⟩ 1 1 [u] hx rfl (fun j c hj => ?_) h1 (by unfold maxLen; omega) (by omega) hbase (fun v' w' hown' hgrow _ hat => ?_)
  · match j, hj with
    | 0, hj => simp at hj; subst hj; rw [show ((⟨gB, 0, none⟩ : Addr).add 0) = ⟨gB, 0, none⟩ by unfold Addr.add; split <;> simp_all]; exact hcell
  · have hb := Built.push hul hus hu hoff hown' hgrow hat
    obtain ⟨A, c, rfl, _⟩ := own_slice hown'
    exact h A c w' hb ((Below.refl _ _).grown hgrow hbase (fun k hk => (hown.lt k hk).1))
end Go.Proofs.YtpdmmmcelkinjaaFmt
/- spec.Path. -/
namespace Go.Proofs.YtpdmmmcelkinjaaFmt
open Go.ChangeShapes Go.WideShapes Go.ChangeAt Go.RowKit
set_option maxRecDepth 20000
theorem keepB {w W w' : World} {B : Nat} {x1 x2 x3 v : Value} {L : List (List Nat)} (hv : HashesR w v L) (hB : w.heap.size < B) (hb : Below B W w') (h : SM w w.heap.size x1 x2 x3 v L W) : SM w w.heap.size x1 x2 x3 v L w' :=
  have hbw : Below w.heap.size w w' := h.2.2.2.2.trans (hb.mono (Nat.le_of_lt hB))
  ⟨(hb.cell hB).trans h.1, (hb.cell hB).trans h.2.1, (hb.cell hB).trans h.2.2.1, hv.below hbw, hbw⟩
theorem path_len (h : Pl.HF) (idx : Nat) (D : List (List Nat)) (h1 : idx < D.length) (h2 : D.length < 18446744073709551616) : (Pl.pathL h idx D).length ≤ 1000 := by
  rw [Pl.pathL_length]
  have := Pl.dirs_le h1 h2
  omega
end Go.Proofs.YtpdmmmcelkinjaaFmt
/- spec.subproof. -/
namespace Go.Proofs.YtpdmmmcelkinjaaFmt
open Go.ChangeShapes Go.WideShapes Go.ChangeAt Go.RowKit
set_option maxRecDepth 20000
theorem cproof_le (m n : Nat) : ∀ (a : Nat) (wh : Bool), 1 ≤ n → (Pl.cproof a m n wh).length ≤ n := by
  induction n using Nat.strongRecOn generalizing m with
  | ind n ih =>
    intro a wh h1
    by_cases he : m = n
    · subst he; rw [Pl.cproof_eq]; cases wh <;> simp; omega
    · by_cases hn : 2 ≤ n
      · have s := Pl.split_spec hn
        have s3 := Pl.split_pos n
        by_cases hi : m ≤ Pl.split n
        · rw [Pl.cproof_l he hn hi, List.length_append]; have := ih _ s.1 m a wh s3; simp; omega
        · rw [Pl.cproof_r he hn hi, List.length_append]; have := ih (n - Pl.split n) (by omega) (m - Pl.split n) (a + Pl.split n) false (by omega); simp; omega
      · rw [Pl.cproof, if_neg he, dif_pos (by omega)]; simp
theorem proof_len (h : Pl.HF) (m : Nat) (D : List (List Nat)) (wh : Bool) (h1 : 1 ≤ D.length) : (Pl.proofL h m D wh).length ≤ D.length := by
  unfold Pl.proofL
  rw [Pl.hl_length]
  exact cproof_le m D.length 0 wh h1
theorem Built.one {w : World} {u : Value} {l : List Nat} {base : Nat} (hu : BytesR w u l) (hb : base ≤ w.heap.size) : Built (w.alloc (.cells #[u] 28)) base (.slice (some ⟨w.heap.size, 0, none⟩) 1 1) [l] := by
  have ho := World.ownsRow_lit (base := base) (e := 28) (size := 1) w #[u] 1 hb (by unfold maxLen; omega) rfl
  refine ⟨[u], ho, rfl, fun k x y hx hy => ?_⟩
  match k, hx, hy with
  | 0, hx, hy =>
    simp at hx hy
    subst hx hy
    exact ⟨hu.below ((Below.refl _ _).alloc (Nat.le_refl _) _), fun hl g hg => by
      have hg' : some w.heap.size = some g := hg
      injection hg' with hg'
      exact Off.elder hu hl (by omega)⟩
end Go.Proofs.YtpdmmmcelkinjaaFmt
