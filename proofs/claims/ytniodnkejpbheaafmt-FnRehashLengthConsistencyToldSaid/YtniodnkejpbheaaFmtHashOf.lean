/- spec.HashOf. -/
import Derived.Test.YtniodnkejpbheaaFmtPathW
namespace Go.Proofs.YtniodnkejpbheaaFmt
open Go.ChangeShapes Go.WideShapes Go.ChangeAt Go.RowKit
set_option maxRecDepth 20000
theorem hashes_part (A : Option Addr) (n cap b x : Nat) (h1 : b ≤ x) (h2 : x ≤ cap) (W : World) :
    (Instr.slice 43 (.slice A n cap) (some (.int .u64 (b : Int))) (some (.int .u64 (x : Int))) none).run Tryf.prog W = .ok (.slice (if cap = b then A else A.map (·.add (b * 1))) (x - b) (cap - b)) W := by
  rw [run_slice_lh W 43 _ _ _ (by rw [elemHashes]; exact Tryf.underlying43) .u64 .u64 (b : Int) (x : Int) (by omega) (by omega) (by omega), elemHashes, sizeBytes]
  rfl
theorem HashesR.part {w : World} {A : Option Addr} {n cap b x : Nat} {L : List (List Nat)} (h : HashesR w (.slice A n cap) L) (h1 : b ≤ x) (h2 : x ≤ L.length) :
    HashesR w (.slice (if cap = b then A else A.map (·.add (b * 1))) (x - b) (cap - b)) ((L.drop b).take (x - b)) := by
  obtain ⟨A', cap', e, hc, hy, hat⟩ := h
  injection e with e1 e2 e3
  subst e1 e2 e3
  have hl : ((L.drop b).take (x - b)).length = x - b := by simp; omega
  refine ⟨_, _, by rw [hl], by rw [hl]; omega, fun y hm => hy y (List.mem_of_mem_drop (List.mem_of_mem_take hm)), fun hp => ?_⟩
  rw [hl] at hp
  obtain ⟨g, o, rfl, h⟩ := hat (by omega)
  rw [if_neg (by omega)]
  refine ⟨g, o + b, by simp [add_plain3], fun k hk => ?_⟩
  rw [hl] at hk
  have := h (b + k) (by omega)
  rw [show o + b + k = o + (b + k) by omega]
  simpa using this
abbrev SH (w : World) (g0 g1 : Nat) (x1 x2 x3 y1 y2 v : Value) (L : List (List Nat)) (w' : World) : Prop := w'.cell? ⟨g0, 0, none⟩ = some x1 ∧ w'.cell? ⟨g0, 1, none⟩ = some x2 ∧ w'.cell? ⟨g0, 2, none⟩ = some x3 ∧ w'.cell? ⟨g1, 0, none⟩ = some y1 ∧ w'.cell? ⟨g1, 1, none⟩ = some y2 ∧ HashesR w' v L ∧ Below g0 w w'
theorem keepH {w W w' : World} {g0 g1 : Nat} {x1 x2 x3 y1 y2 v : Value} {L : List (List Nat)} (hb : Below W.heap.size W w') (h : SH w g0 g1 x1 x2 x3 y1 y2 v L W) : SH w g0 g1 x1 x2 x3 y1 y2 v L w' :=
  have up : ∀ {p : Addr} {v : Value}, W.cell? p = some v → w'.cell? p = some v := fun {p} {_} h => (hb.cell (World.block_lt_of_cell? W p h)).trans h
  ⟨up h.1, up h.2.1, up h.2.2.1, up h.2.2.2.1, up h.2.2.2.2.1, h.2.2.2.2.2.1.below hb, h.2.2.2.2.2.2.trans (hb.mono (Nat.le_of_lt (World.block_lt_of_cell? W _ h.1)))⟩
/-- What HashOf gives where the node's leaves are all there. -/
def RetHashE (a : Nat) (w : World) (l : List Nat) (e : Ending) (w' : World) : Prop := ∃ v, e = .returned (.tuple #[v, .bool true]) ∧ BytesR w' v l ∧ Below w.heap.size w w' ∧ Apart a w.heap.size l v
set_option maxHeartbeats 1000000 in
theorem hashOf_e (h : Pl.HF) (ok : h.ok) (W0 : World) (v : Value) (L : List (List Nat)) (lv ix : Nat) (w : World) (hl : lv ≤ 20) (hx : (ix + 1) * 2 ^ lv ≤ L.length) (hL : L.length ≤ 2147483647) (hv0 : HashesR W0 v L) (hb0 : Below W0.heap.size W0 w) :
    Calls Tryf.prog 40 #[hashV h, .agg #[.int .u64 (lv : Int), .int .u64 (ix : Int)], v] w (RetHashE W0.heap.size w (Pl.mr h (Pl.atL L) (ix * 2 ^ lv) (2 ^ lv))) := by
  obtain ⟨A, cap, rfl, hcap, hat0⟩ := id hv0
  clear hat0
  have hp := Nat.two_pow_pos lv
  have hm : (ix + 1) * 2 ^ lv = ix * 2 ^ lv + 2 ^ lv := by rw [Nat.add_mul, Nat.one_mul]
  have hix : ix < L.length := Nat.lt_of_lt_of_le (by have : ix * 1 ≤ ix * 2 ^ lv := Nat.mul_le_mul_left _ hp; omega) hx
  have HM := Lib.hid (Pl.mth_part h L (ix * 2 ^ lv) (2 ^ lv) hp (by omega))
  have r1 := fun W => hashes_part A L.length cap (ix * 2 ^ lv) ((ix + 1) * 2 ^ lv) (by omega) (by omega) W
  have HT : Hid (∀ (W : World) (g0 g1 : Nat) (x1 x2 x3 y1 y2 : Value), w.heap.size = g0 → SH w g0 g1 x1 x2 x3 y1 y2 (.slice A L.length cap) L W → Calls Tryf.prog 44 #[hashV h, .slice (if cap = ix * 2 ^ lv then A else A.map (·.add (ix * 2 ^ lv * 1))) ((ix + 1) * 2 ^ lv - ix * 2 ^ lv) (cap - ix * 2 ^ lv)] W fun e w' => ∃ v, e = .returned v ∧ BytesR w' v (Pl.mth h ((L.drop (ix * 2 ^ lv)).take (2 ^ lv))) ∧ Below W.heap.size W w' ∧ Apart W0.heap.size w.heap.size (Pl.mth h ((L.drop (ix * 2 ^ lv)).take (2 ^ lv))) v) :=
    Lib.hid (fun W g0 g1 x1 x2 x3 y1 y2 hg S => by
      have hsub : (ix + 1) * 2 ^ lv - ix * 2 ^ lv = 2 ^ lv := by omega
      have hpt := hv0.part (b := ix * 2 ^ lv) (x := (ix + 1) * 2 ^ lv) (by omega) hx
      rw [hsub] at hpt ⊢
      have hB := S.2.2.2.2.2.2
      rw [← hg] at hB
      refine (mth_e h ok W0 (2 ^ lv) _ _ W (by simp; omega) hp (by omega) hpt (hb0.trans (hB.mono hb0.size))).mono ?_
      rintro e w' ⟨v, e1, b1, b2, b3⟩
      exact ⟨v, e1, b1, b2, fun hl A n c e => (b3 hl A n c e).imp_right (Nat.le_trans hB.size)⟩)
  have hq : 2 ^ lv ≤ 2 ^ 20 := Nat.pow_le_pow_right (by decide) hl
  have e1 : (2 : Int) ^ lv = ((2 ^ lv : Nat) : Int) := by simp
  have e2 : IntKind.u64.wrap (((2 ^ lv : Nat) : Int)) = ((2 ^ lv : Nat) : Int) := wrapN _ (by omega)
  have e3 : IntKind.u64.wrap ((L.length : Nat) : Int) = ((L.length : Nat) : Int) := wrapN _ (by omega)
  have e4 : IntKind.u64.wrap ((ix : Int) + 1) = ((ix + 1 : Nat) : Int) := by have := wrapN (ix + 1) (by omega); simpa using this
  have e5 : IntKind.u64.wrap (((ix + 1 : Nat) : Int) * ((2 ^ lv : Nat) : Int)) = (((ix + 1) * 2 ^ lv : Nat) : Int) := by have := wrapN ((ix + 1) * 2 ^ lv) (by omega); rwa [Int.natCast_mul] at this ⊢
  have e6 : IntKind.u64.wrap ((ix : Int) * ((2 ^ lv : Nat) : Int)) = ((ix * 2 ^ lv : Nat) : Int) := by have := wrapN (ix * 2 ^ lv) (by omega); rwa [Int.natCast_mul] at this ⊢
  have hmin : min lv 64 = lv := by omega
  have t1 : ¬ (20 : Int) < (lv : Int) := by omega
  have t2 : ¬ ((L.length : Nat) : Int) < (ix : Int) := by omega
  have t3 : ¬ ((L.length : Nat) : Int) < (((ix + 1) * 2 ^ lv : Nat) : Int) := by omega
  have HV := Lib.hid (hv0.below hb0)
  generalize Pl.mr h (Pl.atL L) (ix * 2 ^ lv) (2 ^ lv) = res at HM ⊢
  generalize Pl.mth h ((L.drop (ix * 2 ^ lv)).take (2 ^ lv)) = l1 at *
  generalize (if cap = ix * 2 ^ lv then A else A.map (·.add (ix * 2 ^ lv * 1))) = A1 at *
  clear hv0 hb0 hm hx hp hq hcap
  generalize (ix + 1) * 2 ^ lv = hi at *
  generalize ix * 2 ^ lv = lo at *
  generalize 2 ^ lv = q at *
  generalize ix + 1 = ix1 at *
  generalize L.length = n at *
  obtain ⟨Ah, Bh, Ch⟩ := h
  unfold hashV at HT ⊢
  simp only [] at HT ⊢
  go_enter Tryf.func40, Tryf.ntmps40
  go_wp2_with fail
  have B0 : Below w.heap.size w ((w.alloc (.cells #[.int .u32 (Ah : Int), .int .u32 (Bh : Int), .int .u32 (Ch : Int)] 42)).alloc (.cells #[.int .u64 (lv : Int), .int .u64 (ix : Int)] 26)).drew := (((Below.refl _ _).alloc (Nat.le_refl _) _).alloc (by simp) _).drew
  have S0 : SH w w.heap.size (w.heap.size + 1) (.int .u32 (Ah : Int)) (.int .u32 (Bh : Int)) (.int .u32 (Ch : Int)) (.int .u64 (lv : Int)) (.int .u64 (ix : Int)) (.slice A n cap) L ((w.alloc (.cells #[.int .u32 (Ah : Int), .int .u32 (Bh : Int), .int .u32 (Ch : Int)] 42)).alloc (.cells #[.int .u64 (lv : Int), .int .u64 (ix : Int)] 26)).drew :=
    ⟨by simp, by simp, by simp, by simp, by simp, HV.out.below B0, B0⟩
  have HG : Hid (∀ g, g = w.heap.size → w.heap.size = g) := Lib.hid (fun g e => e.symm)
  obtain ⟨g0, hg0⟩ : ∃ g0, g0 = w.heap.size := ⟨_, rfl⟩
  rw [← hg0] at S0 B0 ⊢
  have HG := HG.out g0 hg0
  clear hg0
  go_region_held3 (fun w' => w'.cell? ⟨g0, 0, none⟩ = some (.int .u32 (Ah : Int)) ∧ w'.cell? ⟨g0, 1, none⟩ = some (.int .u32 (Bh : Int)) ∧ w'.cell? ⟨g0, 2, none⟩ = some (.int .u32 (Ch : Int)) ∧ w'.cell? ⟨g0 + 1, 0, none⟩ = some (.int .u64 (lv : Int)) ∧ w'.cell? ⟨g0 + 1, 1, none⟩ = some (.int .u64 (ix : Int)) ∧ HashesR w' (.slice A n cap) L ∧ Below g0 w w')
    (first | assumption | exact S0 | exact keepH hb (by assumption))
    (first
      | (go_at_call 44; refine (HT.out _ g0 (g0 + 1) (.int .u32 (Ah : Int)) (.int .u32 (Bh : Int)) (.int .u32 (Ch : Int)) (.int .u64 (lv : Int)) (.int .u64 (ix : Int)) HG (by assumption)).mono ?_; rintro e w' ⟨u1, rfl, hu1, hb, ha⟩))
  all_goals
    have hB : w'.cell? ⟨g0, 0, none⟩ = some (.int .u32 (Ah : Int)) ∧ w'.cell? ⟨g0, 1, none⟩ = some (.int .u32 (Bh : Int)) ∧ w'.cell? ⟨g0, 2, none⟩ = some (.int .u32 (Ch : Int)) ∧ w'.cell? ⟨g0 + 1, 0, none⟩ = some (.int .u64 (lv : Int)) ∧ w'.cell? ⟨g0 + 1, 1, none⟩ = some (.int .u64 (ix : Int)) ∧ HashesR w' (.slice A n cap) L ∧ Below g0 w w' := by assumption
    clear B0 S0 HT hb
    go_wp2
    go_ret2
    exact ⟨_, rfl, by rw [← HM.out]; exact hu1, by rw [HG]; exact hB.2.2.2.2.2.2, by rw [← HM.out]; exact ha⟩
end Go.Proofs.YtniodnkejpbheaaFmt
/- laws.hashesOf. -/
namespace Go.Proofs.YtniodnkejpbheaaFmt
open Go.ChangeShapes Go.WideShapes Go.ChangeAt Go.RowKit
set_option maxRecDepth 20000
/-- The nodes are of these leaves. -/
def OfLeaves (n : Nat) (N : List (Nat × Nat)) : Prop := ∀ p ∈ N, p.1 ≤ 20 ∧ (p.2 + 1) * 2 ^ p.1 ≤ n
/-- The hashes of nodes. -/
def nodeHs (h : Pl.HF) (L : List (List Nat)) (N : List (Nat × Nat)) : List (List Nat) := N.map fun p => Pl.mr h (Pl.atL L) (p.2 * 2 ^ p.1) (2 ^ p.1)
theorem nodeHs_hl (h : Pl.HF) (L : List (List Nat)) (N : List (Nat × Nat)) : nodeHs h L N = Pl.hl h L (N.map Pl.rng) := by
  unfold nodeHs Pl.hl
  rw [List.map_map]; rfl
theorem nodeHs_take (h : Pl.HF) (L : List (List Nat)) (N : List (Nat × Nat)) (k : Nat) (hk : k < N.length) : nodeHs h L (N.take (k + 1)) = nodeHs h L (N.take k) ++ [Pl.mr h (Pl.atL L) (N[k].2 * 2 ^ N[k].1) (2 ^ N[k].1)] := by
  unfold nodeHs
  rw [take_snoc N k hk, List.map_append]; rfl
theorem nodeHs_length (h : Pl.HF) (L : List (List Nat)) (N : List (Nat × Nat)) : (nodeHs h L N).length = N.length := by simp [nodeHs]
def RetBuiltT (w : World) (L : List (List Nat)) (e : Ending) (w' : World) : Prop := ∃ v, e = .returned (.tuple #[v, .bool true]) ∧ Built w' w.heap.size v L ∧ Below w.heap.size w w'
set_option maxHeartbeats 2000000 in
theorem hashesOf_c (h : Pl.HF) (ok : h.ok) (nv v : Value) (N : List (Nat × Nat)) (L : List (List Nat)) (w : World) (hN : NodesR w nv N) (hv : HashesR w v L) (hNl : N.length ≤ 2147483646) (hL : L.length ≤ 2147483647) (hof : OfLeaves L.length N) :
    Calls Tryf.prog 25 #[hashV h, nv, v] w (RetBuiltT w (nodeHs h L N)) := by
  obtain ⟨An, capn, rfl, hcn, hat⟩ := id hN
  obtain ⟨A, cap, rfl, hcap, hat0⟩ := id hv
  clear hat0
  have HH0 : Hid (∀ (lv ix : Nat) (W : World), lv ≤ 20 ∧ (ix + 1) * 2 ^ lv ≤ L.length → Below w.heap.size w W → Calls Tryf.prog 40 #[hashV h, .agg #[.int .u64 (lv : Int), .int .u64 (ix : Int)], .slice A L.length cap] W (RetHashE w.heap.size W (Pl.mr h (Pl.atL L) (ix * 2 ^ lv) (2 ^ lv)))) :=
    Lib.hid (fun lv ix W hx hb => hashOf_e h ok w _ L lv ix W hx.1 hx.2 hL hv hb)
  have HO := Lib.hid hof
  obtain ⟨F, hF⟩ : ∃ F : Nat → List (List Nat), F = fun k => nodeHs h L (N.take k) := ⟨_, rfl⟩
  obtain ⟨f, hf⟩ : ∃ f : Nat → Nat → List Nat, f = fun lv ix => Pl.mr h (Pl.atL L) (ix * 2 ^ lv) (2 ^ lv) := ⟨_, rfl⟩
  have HT : Hid (∀ (k : Nat) (hk : k < N.length), F (k + 1) = F k ++ [f N[k].1 N[k].2]) := Lib.hid (by rw [hF, hf]; exact fun k hk => nodeHs_take h L N k hk)
  have HLn : Hid (∀ k, k ≤ N.length → (F k).length = k) := Lib.hid (by rw [hF]; intro k hk; rw [show (fun k => nodeHs h L (N.take k)) k = nodeHs h L (N.take k) from rfl, nodeHs_length]; simp; omega)
  have HE : Hid (F N.length = nodeHs h L N) := Lib.hid (by rw [hF]; show nodeHs h L (N.take N.length) = _; rw [List.take_length])
  have H0 : Hid (F 0 = []) := Lib.hid (by rw [hF]; rfl)
  have HH : Hid (∀ (lv ix : Nat) (W : World), lv ≤ 20 ∧ (ix + 1) * 2 ^ lv ≤ L.length → Below w.heap.size w W → Calls Tryf.prog 40 #[hashV h, .agg #[.int .u64 (lv : Int), .int .u64 (ix : Int)], .slice A L.length cap] W (RetHashE w.heap.size W (f lv ix))) := by rw [hf]; exact HH0
  generalize nodeHs h L N = res at HE ⊢
  clear hF hf hof hv hN HH0
  generalize L.length = n at *
  obtain ⟨Ah, Bh, Ch⟩ := h
  unfold hashV at HH ⊢
  simp only [] at HH ⊢
  have hg0 := Nat.le_refl w.heap.size
  go_enter Tryf.func25, Tryf.ntmps25
  go_wp2_with fail
  go_loopw [8, 16] (fun ov kv wr => ∃ (k : Nat) (Ao : Option Addr) (co : Nat), k ≤ N.length ∧ kv = .int .i64 k ∧ ov = .slice Ao k co ∧ Hid (Built wr (w.heap.size + 1) (.slice Ao k co) (F k)) ∧ Hid (Below w.heap.size w wr) ∧ w.heap.size < wr.heap.size ∧ wr.cell? ⟨w.heap.size, 0, none⟩ = some (.int .u32 (Ah : Int)) ∧ wr.cell? ⟨w.heap.size, 1, none⟩ = some (.int .u32 (Bh : Int)) ∧ wr.cell? ⟨w.heap.size, 2, none⟩ = some (.int .u32 (Ch : Int))) (fun _ kv _ => N.length - (intOf kv).toNat)
  case atStart =>
    have hb := (Below.refl w.heap.size w).alloc (Nat.le_refl _) (.cells #[.int .u32 (Ah : Int), .int .u32 (Bh : Int), .int .u32 (Ch : Int)] 42)
    have ho := World.ownsRow_lit (base := w.heap.size + 1) (e := 51) (size := 1) (w.alloc (.cells #[.int .u32 (Ah : Int), .int .u32 (Bh : Int), .int .u32 (Ch : Int)] 42)) #[] 0 (by simp) (by unfold maxLen; omega) rfl
    rw [World.size_alloc] at ho
    exact ⟨0, some ⟨w.heap.size + 1, 0, none⟩, 0, Nat.zero_le _, rfl, rfl, Lib.hid (by rw [H0.out]; exact Built.nil ho), Lib.hid (hb.alloc hb.size _), by simp; omega, by simp, by simp, by simp⟩
  case round =>
    obtain ⟨k, Ao, co, hk, rfl, rfl, HB, HW, hlt, c1, c2, c3⟩ := hrel
    by_cases hkl : k < N.length
    · obtain ⟨g, o, rfl, hc⟩ := hat (by omega)
      obtain ⟨d1, d2⟩ := hc k hkl
      have d1 := (HW.out.cell (World.block_lt_of_cell? w _ d1)).trans d1
      have d2 := (HW.out.cell (World.block_lt_of_cell? w _ d2)).trans d2
      have z1 := World.block_lt_of_cell? wr _ d1
      have HTk := Lib.hid (HT.out k hkl)
      have HOk := Lib.hid (HO.out N[k] (List.getElem_mem hkl))
      have hk1 : (k : Int) < (N.length : Int) := by omega
      have hk0 : (0 : Int) ≤ (k : Int) := by omega
      clear hc hat
      generalize N[k].1 = lv at *
      generalize N[k].2 = ix at *
      go_wp2_with fail
      have hb0 := (Below.refl wr.heap.size wr).alloc (Nat.le_refl _) (.cells #[.int .u64 (lv : Int), .int .u64 (ix : Int)] 26)
      refine (HH.out lv ix _ HOk.out (HW.out.trans (hb0.mono HW.out.size))).mono ?_
      rintro e w1 ⟨u1, rfl, hu1, hb1, ha⟩
      have hb2 := hb0.trans (hb1.mono (by simp))
      obtain ⟨Au, nu, cu, rfl⟩ := hu1.form
      have HU := Lib.hid hu1
      have HAp := Lib.hid ha
      have HB2 := Lib.hid hb2
      have c1' := (hb2.cell hlt).trans c1
      have c2' := (hb2.cell hlt).trans c2
      have c3' := (hb2.cell hlt).trans c3
      have zb := hb2.size
      have HLk := Lib.hid (HLn.out k hk)
      clear hb0 hb1 hb2 hu1 ha c1 c2 c3 d1 d2
      go_wp2_with (at_builtin; (refine wpList_append_built rfl (.tmp 29) (.tmp 31) rfl (w.heap.size + 1) (.slice Ao k co) (F k) ((HB.out.below HB2.out).below ((Below.refl _ _).alloc (Nat.le_refl _) _)) rfl w1.heap.size (.slice Au nu cu) (f lv ix) rfl (by simp) (HU.out.below ((Below.refl _ _).alloc (Nat.le_refl _) _)) (fun hl g hg => by
        obtain ⟨us, ho, _⟩ := HB.out
        have h1 := ho.lt g hg
        exact HAp.out.off hl (by omega) (by simp; omega)) (by rw [HLk.out]; omega) (by simp; omega) ?_; intro A5 cap5 w5 hB5 hb5; rw [HLk.out]))
      go_roundw
      case rel =>
        have hb6 : Below w.heap.size w w5 := (HW.out.trans ((HB2.out.trans (((Below.refl w1.heap.size w1).alloc (Nat.le_refl _) (.cells #[.slice Au nu cu] 51)).mono zb)).mono HW.out.size)).trans (hb5.mono (by omega))
        have c1 := (hb5.cell (p := ⟨w.heap.size, 0, none⟩) (by simp)).trans ((((Below.refl w1.heap.size w1).alloc (Nat.le_refl _) (.cells #[.slice Au nu cu] 51)).cell (World.block_lt_of_cell? w1 _ c1')).trans c1')
        have c2 := (hb5.cell (p := ⟨w.heap.size, 1, none⟩) (by simp)).trans ((((Below.refl w1.heap.size w1).alloc (Nat.le_refl _) (.cells #[.slice Au nu cu] 51)).cell (World.block_lt_of_cell? w1 _ c2')).trans c2')
        have c3 := (hb5.cell (p := ⟨w.heap.size, 2, none⟩) (by simp)).trans ((((Below.refl w1.heap.size w1).alloc (Nat.le_refl _) (.cells #[.slice Au nu cu] 51)).cell (World.block_lt_of_cell? w1 _ c3')).trans c3')
        refine ⟨k + 1, _, _, by omega, by go_num, rfl, Lib.hid (by rw [HTk.out]; rw [HLk.out] at hB5; exact hB5), Lib.hid hb6, World.block_lt_of_cell? w5 _ c1, c1, c2, c3⟩
      case measure => simp [intOf] <;> omega
    · have hk1 : ¬ (k : Int) < (N.length : Int) := by omega
      obtain rfl : k = N.length := by omega
      clear hat
      go_wp2_with fail
      go_ret2
      exact ⟨_, rfl, by rw [← HE.out]; exact HB.out.mono (by omega), HW.out⟩
end Go.Proofs.YtniodnkejpbheaaFmt
