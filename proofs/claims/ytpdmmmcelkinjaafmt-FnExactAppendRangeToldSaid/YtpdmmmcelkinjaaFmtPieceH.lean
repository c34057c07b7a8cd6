/- spec.MTH of some leaves; spec.PieceHashes. -/
import Derived.Test.YtpdmmmcelkinjaaFmtMthW
import Derived.Test.YtpdmmmcelkinjaaFmtImplApp
import Derived.Deep.RegionHeldLaw
namespace Go.Proofs.YtpdmmmcelkinjaaFmt
open Go.ChangeShapes Go.WideShapes Go.ChangeAt Go.RowKit
set_option maxRecDepth 20000
theorem hashes_mid (A : Option Addr) (n cap b x : Nat) (h1 : b ≤ x) (h2 : x ≤ cap) (W : World) :
    (Instr.slice 25 (.slice A n cap) (some (.int .u64 (b : Int))) (some (.int .u64 (x : Int))) none).run Tryf.prog W = .ok (.slice (if cap = b then A else A.map (·.add (b * 1))) (x - b) (cap - b)) W := by
  rw [run_slice_lh W 25 _ _ _ (by rw [elemHashes]; exact Tryf.underlying25) .u64 .u64 (b : Int) (x : Int) (by omega) (by omega) (by omega), elemHashes, sizeBytes]
  rfl
theorem HashesR.mid {w : World} {A : Option Addr} {n cap b x : Nat} {L : List (List Nat)} (h : HashesR w (.slice A n cap) L) (h1 : b ≤ x) (h2 : x ≤ L.length) :
    HashesR w (.slice (if cap = b then A else A.map (·.add (b * 1))) (x - b) (cap - b)) ((L.drop b).take (x - b)) := by
  obtain ⟨A', cap', e, hc, hy, hat⟩ := h
  injection e with e1 e2 e3
  subst e1 e2 e3
  have hl : ((L.drop b).take (x - b)).length = x - b := by simp; omega
  refine ⟨_, _, by rw [hl], by rw [hl]; omega, fun y hm => hy y (List.mem_of_mem_drop (List.mem_of_mem_take hm)), fun hp => ?_⟩
  rw [hl] at hp
  obtain ⟨g, o, rfl, h⟩ := hat (by omega)
  rw [if_neg (by omega)]
  refine ⟨g, o + b, by simp [Addr.add], fun k hk => ?_⟩
  rw [hl] at hk
  have := h (b + k) (by omega)
  rw [show o + b + k = o + (b + k) by omega]
  simpa using this
/-- MTH of the leaves from a up to z. -/
theorem mth_mid (h : Pl.HF) (ok : h.ok) (W0 : World) (A : Option Addr) (n cap a z : Nat) (L : List (List Nat)) (hv0 : HashesR W0 (.slice A n cap) L) (ha : a < z) (hz : z ≤ L.length) (hL : L.length ≤ 1000) : ∃ v1,
    (∀ W, (Instr.slice 25 (.slice A n cap) (some (.int .u64 (a : Int))) (some (.int .u64 (z : Int))) none).run Tryf.prog W = .ok v1 W) ∧ (∃ B m c, v1 = .slice B m c) ∧
    ∀ w, Below W0.heap.size W0 w → Calls Tryf.prog 18 #[hashV h, v1] w (RetBytesE W0.heap.size w (Pl.mr h (Pl.atL L) a (z - a))) := by
  have hcap : L.length ≤ cap := by
    obtain ⟨A', cap', e, hc, _⟩ := hv0
    injection e with e1 e2 e3
    omega
  refine ⟨_, fun W => hashes_mid A n cap a z (by omega) (by omega) W, ⟨_, _, _, rfl⟩, fun w hb => ?_⟩
  have hp := hv0.mid (b := a) (x := z) (by omega) hz
  have hm := Pl.mth_part h L a (z - a) (by omega) (by omega)
  have := mth_e h ok W0 (z - a) _ _ w (by simp; omega) (by omega) (by omega) hp hb
  rwa [hm] at this
theorem gv_lv (h : Pl.HF) (L : List (List Nat)) (b l i : Nat) (hb : b ≤ i * 2 ^ l) : Pl.gv h (Pl.lv L b) (l, i) = Pl.mr h (Pl.atL L) (i * 2 ^ l - b) (2 ^ l) := by
  unfold Pl.gv
  simp only []
  have hp := Nat.two_pow_pos l
  have h1 := Pl.mr_shift h (Pl.lv L b) b (i * 2 ^ l - b) (2 ^ l) hp
  rw [show i * 2 ^ l - b + b = i * 2 ^ l by omega] at h1
  rw [← h1]
  refine Pl.mr_congr h _ _ _ _ hp (fun j _ _ => ?_)
  unfold Pl.lv
  rw [Nat.add_sub_cancel]
namespace Pl
theorem pos_pieces (e : Nat) (he : e < 18446744073709551616) : ∀ (k b : Nat) (hk : k < (pieces b e).length), (pieces b e)[k].2 * 2 ^ (pieces b e)[k].1 = pos (pieces b e) b k ∧ pos (pieces b e) b (k + 1) = pos (pieces b e) b k + 2 ^ (pieces b e)[k].1 ∧ pos (pieces b e) b k + 2 ^ (pieces b e)[k].1 ≤ e ∧ (pieces b e)[k].1 ≤ 63 ∧ b ≤ pos (pieces b e) b k := by
  intro k
  induction k with
  | zero =>
    intro b hk
    rcases Nat.lt_or_ge b e with h | h
    · obtain ⟨l, hl, _, hst, hdv, hle2⟩ := pieces_step h he
      simp only [hst]
      refine ⟨hdv, ?_, hle2, hl, Nat.le_refl _⟩
      show pos (pieces (b + 2 ^ l) e) (b + 2 ^ l) 0 = b + 2 ^ l
      cases pieces (b + 2 ^ l) e <;> rfl
    · rw [show pieces b e = [] from pcs_nil _ _ _ _ h] at hk; simp at hk
  | succ k ih =>
    intro b hk
    rcases Nat.lt_or_ge b e with h | h
    · obtain ⟨l, hl, _, hst, hdv, hle2⟩ := pieces_step h he
      have hk' : k < (pieces (b + 2 ^ l) e).length := by rw [hst] at hk; simpa using hk
      obtain ⟨a1, a2, a3, a4, a5⟩ := ih (b + 2 ^ l) hk'
      simp only [hst]
      exact ⟨a1, a2, a3, a4, Nat.le_trans (Nat.le_add_right _ _) a5⟩
    · rw [show pieces b e = [] from pcs_nil _ _ _ _ h] at hk; simp at hk
end Pl
theorem step_append_builtk {w : World} {ops : Array Oper} {o : Oper} {a : Act} {K : Act → World → Prop} {Q : Exit → Act → World → Prop} {E : Prop} (hgd : o.guard = none) (d : Nat) (hd : o.dst = some d) (s x : Operand)
    (ho : o.op = .call { callee := .builtin .append, args := #[s, x], argTypes := #[25, 25] }) (base : Nat) (v : Value) (L : List (List Nat)) (hp : Built w base v L) (hs : a.eval s = v) (gB : Nat) (u : Value) (l : List Nat)
    (hx : a.eval x = .slice (some ⟨gB, 0, none⟩) 1 1) (hcell : w.cell? ⟨gB, 0, none⟩ = some u) (hu : BytesR w u l) (hoff : 0 < l.length → ∀ g, v.ownBlock = some g → Off g u) (hle : L.length ≤ 2147483647) (hbase : base ≤ w.heap.size)
    (h : ∀ g cap w', Built w' base (.slice (some ⟨g, 0, none⟩) (L.length + 1) cap) (L ++ [l]) → Below base w w' → KeepT [28] w w' → K (a.put (some d) (.slice (some ⟨g, 0, none⟩) (L.length + 1) cap)) w') :
    if Region.wanted o (yielded ops a.tmps) = true then Oper.wp Tryf.prog o a w K Q else E := by
  obtain ⟨i0, hi, hz0, hz1, hz2⟩ := info_parts bytesInfo
  obtain ⟨us, hown, hul, hus⟩ := hp
  rw [← hd] at h
  have h1 : ∀ c ∈ [u], c.oneCell' = true := by
    obtain ⟨A, n, c, rfl⟩ := hu.form
    simp [Value.oneCell']
  refine step_append_lies w hgd s x 25 ho base 28 i0 (.slice none 0 0) 1 24 Tryf.underlying25 hi hz0 hz1 hz2 rfl (by decide) v L.length us hs hown ⟨gB, 0, none⟩ 1 1 [u] hx rfl (fun j c hj => ?_) h1 (by decide) (by unfold maxLen; omega) (by omega) hbase _ rfl (fun g cap w' hown' hgrow hat hlt => ?_)
  · match j, hj with
    | 0, hj => simp at hj; subst hj; rw [show ((⟨gB, 0, none⟩ : Addr).add 0) = ⟨gB, 0, none⟩ by unfold Addr.add; split <;> simp_all]; exact hcell
  · refine h g cap w' (Built.push hul hus hu hoff hown' hgrow ?_) ((Below.refl _ _).grown hgrow hbase (fun k hk => (hown.lt k hk).1)) (keep_grown hown hgrow)
    rcases hat with e | e
    · exact .inl (by rw [e]; rfl)
    · exact .inr (by rw [e]; rfl)
theorem cells3b {W w' : World} {B : Nat} {g : Nat} {v1 v2 v3 : Value} (hb : Below B W w') (hg : g < B) (S : W.cell? ⟨g, 0, none⟩ = some v1 ∧ W.cell? ⟨g, 1, none⟩ = some v2 ∧ W.cell? ⟨g, 2, none⟩ = some v3) : w'.cell? ⟨g, 0, none⟩ = some v1 ∧ w'.cell? ⟨g, 1, none⟩ = some v2 ∧ w'.cell? ⟨g, 2, none⟩ = some v3 := by
  have up : ∀ {o : Nat} {v : Value}, W.cell? ⟨g, o, none⟩ = some v → w'.cell? ⟨g, o, none⟩ = some v := fun {o} {_} h => (World.cell?_of_block (a := ⟨g, o, none⟩) (hb.block g hg)).trans h
  exact ⟨up S.1, up S.2.1, up S.2.2⟩
set_option maxHeartbeats 4000000 in
theorem pieceHashes_c (h : Pl.HF) (ok : h.ok) (b : Nat) (v : Value) (L : List (List Nat)) (w : World) (hv : HashesR w v L) (hL : L.length ≤ 1000) (hb : b + L.length < 4611686018427387904) :
    Calls Tryf.prog 17 #[hashV h, .int .u64 (b : Int), v] w (RetBuilt w (Pl.ph h (Pl.lv L b) b (b + L.length))) := by
  obtain ⟨A, cap, rfl, hcap, hx1, hx2⟩ := id hv
  clear hx1 hx2 hcap
  obtain ⟨N, hN⟩ : ∃ N, N = Pl.pieces b (b + L.length) := ⟨_, rfl⟩
  obtain ⟨F, hF⟩ : ∃ F : Nat → List (List Nat), F = fun k => (N.take k).map (Pl.gv h (Pl.lv L b)) := ⟨_, rfl⟩
  have hNl : N.length ≤ 128 := by rw [hN]; exact Pl.pieces_len _ _ (by omega)
  have HP := Lib.hid (pieces_c b (b + L.length) (by omega) (by omega))
  rw [← hN] at HP
  have HPP : Hid (∀ (k : Nat) (hk : k < N.length), N[k].2 * 2 ^ N[k].1 = Pl.pos N b k ∧ Pl.pos N b (k + 1) = Pl.pos N b k + 2 ^ N[k].1 ∧ Pl.pos N b k + 2 ^ N[k].1 ≤ b + L.length ∧ N[k].1 ≤ 63 ∧ b ≤ Pl.pos N b k) := Lib.hid (by subst hN; exact fun k hk => Pl.pos_pieces (b + L.length) (by omega) k b hk)
  have HM := Lib.hid (fun a z (ha : a < z) (hz : z ≤ L.length) => mth_mid h ok w A L.length cap a z L hv ha hz hL)
  have HTk : Hid (∀ (k : Nat) (hk : k < N.length), F (k + 1) = F k ++ [Pl.gv h (Pl.lv L b) N[k]]) := Lib.hid (fun k hk => by rw [hF]; simp only []; rw [List.take_succ_eq_append_getElem hk, List.map_append]; rfl)
  have HLn : Hid (∀ k, k ≤ N.length → (F k).length = k) := Lib.hid (fun k hk => by rw [hF]; simp; omega)
  have HE : Hid (F N.length = Pl.ph h (Pl.lv L b) b (b + L.length)) := Lib.hid (by rw [hF]; simp only [List.take_length]; rw [hN]; rfl)
  have H0 : Hid (F 0 = []) := Lib.hid (by rw [hF]; rfl)
  have HGV := Lib.hid (fun l i (hi : b ≤ i * 2 ^ l) => gv_lv h L b l i hi)
  obtain ⟨f, hf⟩ : ∃ f : Nat × Nat → List Nat, f = Pl.gv h (Pl.lv L b) := ⟨_, rfl⟩
  obtain ⟨m, hm⟩ : ∃ m : Nat → Nat → List Nat, m = fun a k => Pl.mr h (Pl.atL L) a k := ⟨_, rfl⟩
  obtain ⟨res, hres⟩ : ∃ res, res = Pl.ph h (Pl.lv L b) b (b + L.length) := ⟨_, rfl⟩
  rw [← hf] at HTk HGV
  rw [← hres] at HE ⊢
  have HM2 : Hid (∀ a z, a < z → z ≤ L.length → ∃ v1, (∀ W, (Instr.slice 25 (.slice A L.length cap) (some (.int .u64 (a : Int))) (some (.int .u64 (z : Int))) none).run Tryf.prog W = .ok v1 W) ∧ (∃ B m c, v1 = .slice B m c) ∧ ∀ W, Below w.heap.size w W → Calls Tryf.prog 18 #[hashV h, v1] W (RetBytesE w.heap.size W (m a (z - a)))) := by rw [hm]; exact HM
  have HG2 : Hid (∀ l i, b ≤ i * 2 ^ l → f (l, i) = m (i * 2 ^ l - b) (2 ^ l)) := by rw [hm]; exact HGV
  have w1 : IntKind.u64.wrap ((L.length : Nat) : Int) = ((L.length : Nat) : Int) := wrapN _ (by omega)
  have w2 : IntKind.u64.wrap ((b : Int) + ((L.length : Nat) : Int)) = ((b + L.length : Nat) : Int) := by have := wrapN (b + L.length) (by omega); simpa using this
  have HBL := Lib.hid hb
  have HLL := Lib.hid hL
  clear hF hN HM HGV hf hm hres hv hb hL
  generalize hn : L.length = n at *
  generalize hbe : b + n = e at *
  have HBE := Lib.hid hbe
  clear hn hbe
  obtain ⟨Ah, Bh, Ch⟩ := h
  unfold hashV at HM2 ⊢
  simp only [] at HM2 ⊢
  go_enter Tryf.func17, Tryf.ntmps17
  go_wp2_with fail
  refine (HP.out _).mono ?_; rintro r wp ⟨nv, rfl, hno, hbp⟩
  obtain ⟨An, capn, rfl, hcn⟩ := own_slice hno
  have HNR := Lib.hid (hno.mono (base' := w.heap.size) (by simp <;> omega))
  have S00 := (Blk.new w 24 #[.int .u32 (Ah : Int), .int .u32 (Bh : Int), .int .u32 (Ch : Int)]).alloc (.cells #[] 28)
  have S1 := S00.below' hbp
  have O1 := World.ownsRow_lit (base := w.heap.size + 1) (e := 28) (size := 1) (w.alloc (.cells #[.int .u32 (Ah : Int), .int .u32 (Bh : Int), .int .u32 (Ch : Int)] 24)) #[] 0 (by simp) (by unfold maxLen; omega) rfl
  rw [World.size_alloc] at O1
  have O2 := own_below O1 hbp
  have B1 : Below w.heap.size w wp := (((Below.refl w.heap.size w).alloc (Nat.le_refl _) _).alloc (by simp) _).trans (hbp.mono (by simp <;> omega))
  have HO2 := Lib.hid O2
  have HB1 := Lib.hid B1
  have HS1 := Lib.hid S1
  have zp : w.heap.size < wp.heap.size := S1.lt
  clear O1 O2 B1 S1 S00 hbp hno hcn
  go_wp2_with fail
  go_loopw [7, 8, 10, 11, 21] (fun ov av _ _ kv wr => ∃ (k at_ : Nat) (Ao : Option Addr) (co : Nat), k ≤ N.length ∧ kv = .int .i64 k ∧ av = .int .u64 (at_ : Int) ∧ ov = .slice Ao k co ∧ Hid (at_ + b = Pl.pos N b k) ∧ Hid (Built wr (w.heap.size + 1) (.slice Ao k co) (F k)) ∧ Hid (Below w.heap.size w wr ∧ Blk wr w.heap.size 24 #[.int .u32 (Ah : Int), .int .u32 (Bh : Int), .int .u32 (Ch : Int)] ∧ wp.heap.size ≤ wr.heap.size ∧ wr.ownsRow w.heap.size 45 2 (.slice An N.length capn) N.length (nodeCells N))) (fun _ _ _ _ kv _ => N.length - (intOf kv).toNat)
  case atStart => exact ⟨0, 0, _, _, Nat.zero_le _, rfl, rfl, rfl, Lib.hid (by rw [Nat.zero_add]; cases N <;> rfl), Lib.hid (by rw [H0.out]; exact Built.nil HO2.out), Lib.hid ⟨HB1.out, HS1.out, Nat.le_refl _, HNR.out⟩⟩
  case round =>
    obtain ⟨k, at_, Ao, co, hk, rfl, rfl, rfl, HAT, HB, HW⟩ := hrel
    by_cases hkl : k < N.length
    · obtain ⟨p1, p2, p3, p4, p5⟩ := HPP.out k hkl
      obtain ⟨An', capn', eN, hcn, hatn⟩ := NodesR.of_own HW.out.2.2.2
      injection eN with eN1 eN2 eN3
      subst eN1 eN3
      clear eN2
      obtain ⟨g, o, rfl, hc⟩ := hatn (by omega)
      obtain ⟨d1, d2⟩ := hc k hkl
      have HTKk := Lib.hid (HTk.out k hkl)
      have HF2 : Hid (f N[k] = m at_ (2 ^ N[k].1)) := Lib.hid (by
        have h1 := HG2.out N[k].1 N[k].2 (by rw [p1]; exact p5)
        rw [p1, show Pl.pos N b k - b = at_ by have := HAT.out; omega] at h1
        exact h1)
      have hwd := Nat.two_pow_pos N[k].1
      have hlv : N[k].1 ≤ 63 := p4
      obtain ⟨v1, r1, ⟨Bm, mm, cm, ev1⟩, hM⟩ := HM2.out at_ (at_ + 2 ^ N[k].1) (by omega) (by have := HAT.out; have := HBE.out; omega)
      rw [Nat.add_sub_cancel_left, ← HF2.out] at hM
      have hzb : at_ + 2 ^ N[k].1 ≤ 1000 := by have := HAT.out; have := HBE.out; have := HLL.out; omega
      have HNX : Hid (at_ + 2 ^ N[k].1 + b = Pl.pos N b (k + 1)) := Lib.hid (by rw [p2, ← HAT.out]; omega)
      have HMM := Lib.hid hM
      have e1 : (2 : Int) ^ N[k].1 = ((2 ^ N[k].1 : Nat) : Int) := by simp
      have e2 : IntKind.u64.wrap (((2 ^ N[k].1 : Nat) : Int)) = ((2 ^ N[k].1 : Nat) : Int) := wrapN _ (by omega)
      have e3 : IntKind.u64.wrap ((at_ : Int) + ((2 ^ N[k].1 : Nat) : Int)) = ((at_ + 2 ^ N[k].1 : Nat) : Int) := by have := wrapN (at_ + 2 ^ N[k].1) (by omega); simpa using this
      have hmin : min N[k].1 64 = N[k].1 := by omega
      have hk1 : (k : Int) < (N.length : Int) := by omega
      have hk0 : (0 : Int) ≤ (k : Int) := by omega
      clear p1 p2 p3 p4 p5 hM HF2 hc hatn hcn hzb hwd
      generalize f N[k] = fk at *
      generalize 2 ^ N[k].1 = wd at *
      generalize N[k].1 = lv at *
      generalize N[k].2 = ix at *
      generalize at_ + wd = z at *
      subst ev1
      have HLk := Lib.hid (HLn.out k hk)
      go_wp2_with fail
      have zr : w.heap.size < wr.heap.size := HW.out.2.1.lt
      have BN : Below wr.heap.size wr (wr.alloc (.cells #[.int .u64 (lv : Int), .int .u64 (ix : Int)] 45)).drew := ((Below.refl _ _).alloc (Nat.le_refl _) _).drew
      have KH := HW.out.2.1.below' BN
      have S0 : (wr.alloc (.cells #[.int .u64 (lv : Int), .int .u64 (ix : Int)] 45)).drew.cell? ⟨w.heap.size, 0, none⟩ = some (.int .u32 (Ah : Int)) ∧ (wr.alloc (.cells #[.int .u64 (lv : Int), .int .u64 (ix : Int)] 45)).drew.cell? ⟨w.heap.size, 1, none⟩ = some (.int .u32 (Bh : Int)) ∧ (wr.alloc (.cells #[.int .u64 (lv : Int), .int .u64 (ix : Int)] 45)).drew.cell? ⟨w.heap.size, 2, none⟩ = some (.int .u32 (Ch : Int)) := ⟨KH.cell 0, KH.cell 1, KH.cell 2⟩
      have HBN := Lib.hid BN
      clear KH BN d1 d2
      go_region_held_law (fun w' => w'.cell? ⟨w.heap.size, 0, none⟩ = some (.int .u32 (Ah : Int)) ∧ w'.cell? ⟨w.heap.size, 1, none⟩ = some (.int .u32 (Bh : Int)) ∧ w'.cell? ⟨w.heap.size, 2, none⟩ = some (.int .u32 (Ch : Int)))
        (first | assumption | exact S0 | exact cells3 hbm (by assumption) | exact cells3 ((Below.refl _ _).alloc (Nat.le_refl _) _) (by assumption) | exact cells3b hb5 (Nat.lt_succ_self _) (by assumption) | fail)
        (first
          | (go_at_call 18; refine (HMM.out _ (HW.out.1.trans (HBN.out.mono HW.out.1.size))).mono ?_; rintro e9 w1 ⟨u1, rfl, hu1, hbm, ha⟩; obtain ⟨Au, nu, cu, rfl⟩ := hu1.form)
          | (refine step_append_builtk rfl 38 rfl (.tmp 28) (.tmp 37) rfl (w.heap.size + 1) (.slice Ao k co) (F k) (((HB.out.below HBN.out).below hbm).below ((Below.refl _ _).alloc (Nat.le_refl _) _)) rfl w1.heap.size (.slice Au nu cu) fk rfl (by simp) (hu1.below ((Below.refl _ _).alloc (Nat.le_refl _) _)) (fun hl g hg => by
               obtain ⟨us, ho, _⟩ := HB.out
               have h1 := ho.lt g hg
               have h2 := HBN.out.size
               exact ha.off hl (by omega) (by omega)) (by rw [HLk.out]; omega) (by have h1 := hbm.size; have h2 := HBN.out.size; simp; omega) ?_
             intro g5 cap5 w5 hB5 hb5 hk5
             rw [HLk.out])
          | fail)
      all_goals
        have B5 : Below w.heap.size w w5 := (((HW.out.1.trans (HBN.out.mono HW.out.1.size)).trans (hbm.mono (Nat.le_trans HW.out.1.size HBN.out.size))).alloc (Nat.le_trans (Nat.le_trans HW.out.1.size HBN.out.size) hbm.size) (.cells #[.slice Au nu cu] 28)).trans (hb5.mono (Nat.le_succ _))
        have KH5 := (((HW.out.2.1.below' HBN.out).below' hbm).alloc (.cells #[.slice Au nu cu] 28)).below hb5 (Nat.lt_succ_self _)
        have KN5 := owns_keep (((own_below (own_below HW.out.2.2.2 HBN.out) hbm)).alloc (.cells #[.slice Au nu cu] 28)) hk5 (by decide)
        have zs : wp.heap.size ≤ w5.heap.size := Nat.le_trans HW.out.2.2.1 (Nat.le_trans HBN.out.size (Nat.le_trans hbm.size (Nat.le_trans (by simp) hb5.size)))
        have HB5 := Lib.hid hB5
        clear hB5 hb5 hk5 hbm hu1 ha S0
        go_wp2_with fail
        go_roundw
        case rel => exact ⟨k + 1, z, _, _, by omega, by go_num, by go_num, rfl, HNX, Lib.hid (by have h1 := HB5.out; rw [HLk.out] at h1; rw [HTKk.out]; exact h1), Lib.hid ⟨B5, KH5, zs, KN5⟩⟩
        case measure => simp [intOf] <;> omega
    · have hk1 : ¬ (k : Int) < (N.length : Int) := by omega
      obtain rfl : k = N.length := by omega
      go_wp2_with fail
      go_ret
      exact ⟨_, rfl, by rw [← HE.out]; exact HB.out.mono (by omega), HW.out.1⟩
end Go.Proofs.YtpdmmmcelkinjaaFmt
