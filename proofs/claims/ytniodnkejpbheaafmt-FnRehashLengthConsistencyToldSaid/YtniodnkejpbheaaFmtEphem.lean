/- The check 'ephemeral' of the statements. -/
import Derived.Test.YtniodnkejpbheaaFmtNodesOf
import Derived.Test.YtniodnkejpbheaaFmtPlanQ
import Derived.Test.YtniodnkejpbheaaFmtBlk
import Derived.Lib.Hide
import Derived.IntWalk
namespace Go.Proofs.YtniodnkejpbheaaFmt
open Go.ChangeShapes Go.WideShapes Go.ChangeAt Go.RowKit
set_option maxRecDepth 20000
theorem elemNode : Tryf.prog.elem 23 = 26 := by kernel_rfl
theorem sizeNode (w : World) : (sizeOf 26).run Tryf.prog w = .ok 2 w := by
  obtain ⟨i0, hi, hz0, hz1, hz2⟩ := info_parts nodeInfo
  simp [sizeOf, typeInfo, hi, hz1]
theorem part_run (A : Option Addr) (n cap b x : Nat) (h1 : b ≤ x) (h2 : x ≤ cap) (W : World) :
    (Instr.slice 23 (.slice A n cap) (some (.int .i64 (b : Int))) (some (.int .i64 (x : Int))) none).run Tryf.prog W = .ok (.slice (if cap = b then A else A.map (·.add (b * 2))) (x - b) (cap - b)) W := by
  rw [run_slice_lh W 23 _ _ _ (by rw [elemNode]; exact Tryf.underlying23) .i64 .i64 (b : Int) (x : Int) (by omega) (by omega) (by omega), elemNode, sizeNode]
  rfl
theorem add_plain2 (g o k : Nat) : (⟨g, o, none⟩ : Addr).add k = ⟨g, o + k, none⟩ := by unfold Addr.add; split <;> simp_all
theorem NodesR.part {w : World} {A : Option Addr} {n cap b x : Nat} {L : List (Nat × Nat)} (h : NodesR w (.slice A n cap) L) (h1 : b ≤ x) (h2 : x ≤ L.length) :
    NodesR w (.slice (if cap = b then A else A.map (·.add (b * 2))) (x - b) (cap - b)) ((L.drop b).take (x - b)) := by
  obtain ⟨A', cap', e, hc, hat⟩ := h
  injection e with e1 e2 e3
  subst e1 e2 e3
  have hl : ((L.drop b).take (x - b)).length = x - b := by simp; omega
  refine ⟨_, _, by rw [hl], by rw [hl]; omega, fun hp => ?_⟩
  rw [hl] at hp
  obtain ⟨g, o, rfl, h⟩ := hat (by omega)
  rw [if_neg (by omega)]
  refine ⟨g, o + b * 2, by simp [add_plain2], fun k hk => ?_⟩
  rw [hl] at hk
  have := h (b + k) (by omega)
  rw [show o + b * 2 + k * 2 = o + (b + k) * 2 by omega]
  simpa using this
theorem ephem_same (v : Value) (L : List (Nat × Nat)) (el ei s b : Nat) (w : World) (hv : NodesR w v L) :
    Calls Tryf.prog 16 #[.agg #[v, .int .u64 (el : Int), .int .u64 (ei : Int), .int .i64 (b : Int), .int .i64 (b : Int)], .int .u64 (s : Int), .int .i64 ((L.length : Nat) : Int)] w fun e w' => e = .returned (.bool true) ∧ Below w.heap.size w w' := by
  obtain ⟨A, cap, rfl, hcap, hat⟩ := hv
  clear hat
  go_enter Tryf.func16, Tryf.ntmps16
  go_wp2_with fail
  go_ret
  exact ⟨rfl, (Below.refl _ _).alloc (Nat.le_refl _) _⟩
theorem count_take (M : List (Nat × Nat)) (p : Nat × Nat) (j : Nat) (h : j < M.length) : (M.take (j + 1)).count p = (M.take j).count p + if M[j] = p then 1 else 0 := by
  rw [take_snoc M j h, List.count_append, List.count_singleton]
  congr 1
  by_cases e : M[j] = p
  · rw [if_pos e]; simp [e]
  · rw [if_neg e]; simp [e]
set_option maxHeartbeats 2000000 in
theorem ephemeral_c (v : Value) (L P : List (Nat × Nat)) (el ei s b x from_ many : Nat) (w : World) (hv : NodesR w v L) (hbx : b < x) (hx : x ≤ L.length) (hm : x - b + many = L.length + 1) (hL : L.length ≤ 1000)
    (hel : el ≤ 62) (hf : IntKind.u64.wrap ((ei : Int) * 2 ^ el) = (from_ : Int)) (hfs : from_ < s) (hs : s < 18446744073709551616) (hw : s - from_ < 2 ^ el)
    (hP : Hid (∀ w : World, Calls Tryf.prog 35 #[.int .u64 (from_ : Int), .int .u64 (s : Int)] w (RetNodes w P))) (hPl : P.length = x - b) (hPM : (L.drop b).take (x - b) = P.reverse) (hnd : ∀ p ∈ P, P.reverse.count p = 1) :
    Calls Tryf.prog 16 #[.agg #[v, .int .u64 (el : Int), .int .u64 (ei : Int), .int .i64 (b : Int), .int .i64 (x : Int)], .int .u64 (s : Int), .int .i64 (many : Int)] w fun e w' => e = .returned (.bool true) ∧ Below w.heap.size w w' := by
  have HV := Lib.hid hv
  obtain ⟨A, cap, rfl, hcap, _⟩ := id hv
  have hpart := hv.part (Nat.le_of_lt hbx) hx
  rw [hPM] at hpart
  have hsl := fun W => part_run A L.length cap b x (Nat.le_of_lt hbx) (by omega) W
  generalize hA2 : (if cap = b then A else A.map (·.add (b * 2))) = A2 at hpart hsl
  generalize hc2 : cap - b = c2 at hpart hsl
  have hrl : P.reverse.length = x - b := by rw [List.length_reverse, hPl]
  have HND := Lib.hid hnd
  have HPE := Lib.hid (fun p => show p ∈ P ↔ p ∈ P.reverse from List.mem_reverse.symm)
  obtain ⟨n, hn⟩ : ∃ n, n = x - b := ⟨_, rfl⟩
  rw [← hn] at hpart hsl hrl hPl
  have HPart := Lib.hid hpart
  have HRl := Lib.hid hrl
  have HPl := Lib.hid hPl
  have e1 : IntKind.i64.wrap ((x : Int) - (b : Int)) = (n : Int) := by rw [IntWalk.i64_in _ (by omega)]; omega
  have e2 : IntKind.i64.wrap ((L.length : Int) - (many : Int)) = (L.length : Int) - (many : Int) := IntWalk.i64_in _ (by omega)
  have e3 : IntKind.i64.wrap ((L.length : Int) - (many : Int) + 1) = (n : Int) := by rw [IntWalk.i64_in _ (by omega)]; omega
  have e4 : IntKind.u64.wrap ((s : Int) - (from_ : Int)) = ((s - from_ : Nat) : Int) := by rw [IntKind.wrap_u64]; omega
  obtain ⟨pw, hpw⟩ : ∃ pw, pw = 2 ^ el := ⟨_, rfl⟩
  have e5 : IntKind.u64.wrap ((2 : Int) ^ el) = (pw : Int) := by rw [hpw]; have := wrapN (2 ^ el) (Nat.pow_lt_pow_right (by decide) (show el < 64 by omega)); simpa using this
  rw [← hpw] at hw
  generalize hsf : s - from_ = sf at e4 hw
  have t0 : ((b : Int) == (x : Int)) = false := by simp; omega
  have t1 : ¬ (b : Int) < 0 := by omega
  have t2 : ¬ (x : Int) < (b : Int) := by omega
  have t3 : ¬ (L.length : Int) < (x : Int) := by omega
  have t4 : ¬ (62 : Int) < (el : Int) := by omega
  have t5 : ¬ (s : Int) ≤ (from_ : Int) := by omega
  have t6 : ¬ (pw : Int) ≤ (sf : Int) := by omega
  have hmin : min el 64 = el := by omega
  have hn1000 : n ≤ 1000 := by omega
  have hb0 : (0 : Int) ≤ (b : Int) := by omega
  clear hv hpart hPM hnd hrl hPl hA2 hc2 hpw hsf hn
  go_enter Tryf.func16, Tryf.ntmps16
  go_wp2_with fail
  refine (hP.out _).mono ?_; rintro e w1 ⟨vp, rfl, hown, hb1⟩
  obtain ⟨AP, capP, rfl, hcP, hatP⟩ := NodesR.of_own hown
  have HBox : Hid (Blk w1 w.heap.size 28 #[.slice A L.length cap, .int .u64 (el : Int), .int .u64 (ei : Int), .int .i64 (b : Int), .int .i64 (x : Int)]) := (Blk.new _ _ _).below' hb1
  have B1 : Below w.heap.size w w1 := ((Below.refl _ _).alloc (Nat.le_refl _) _).trans (hb1.mono (by simp))
  obtain ⟨A3, cap3, eA3, hc3, hat3⟩ := HPart.out.below B1
  injection eA3 with eA eN eC
  subst eA eN eC
  generalize hQ : P.reverse = Q at *
  have hQn : Q.length = P.length := by rw [← hQ, List.length_reverse]
  have t7 : ((P.length : Int) == (Q.length : Int)) = true := by simp [hQn]
  have t8 : ((P.length : Int) != (Q.length : Int)) = false := by simp [hQn]
  have HQn := Lib.hid hQn
  have hP1000 : P.length ≤ 1000 := by omega
  obtain ⟨r1, r2, r3, r4, r5, r6, r7, r8, r9, r10⟩ := HBox.out.five
  clear hown hb1 hQ hQn hP HV HPart hel hw hfs
  go_wp2_with fail
  clear r1 r2 r3 r4 r5 r6 r7 r8 r9 r10 t0 t1 t2 t3 t4 t5 t6 t7 t8 e1 e2 e3 e4 e5 hf
  go_loopw [93] (fun kv wr => ∃ k : Nat, k ≤ P.length ∧ kv = .int .i64 k ∧ Below w1.heap.size w1 wr) (fun kv _ => P.length - (intOf kv).toNat)
  case atStart => exact ⟨0, Nat.zero_le _, rfl, Below.refl _ _⟩
  case round =>
    obtain ⟨k, hk, rfl, hB⟩ := hrel
    by_cases hkl : k < P.length
    · obtain ⟨g, o, rfl, hc⟩ := hatP (by omega)
      obtain ⟨c1, c2⟩ := hc k hkl
      have c1 := (hB.cell (World.block_lt_of_cell? w1 _ c1)).trans c1
      have c2 := (hB.cell (World.block_lt_of_cell? w1 _ c2)).trans c2
      have HCnt : Hid (Q.count P[k] = 1) := Lib.hid (HND.out P[k] (List.getElem_mem hkl))
      have hPk : P[k] = (P[k].1, P[k].2) := rfl
      rw [hPk] at HCnt
      generalize P[k].1 = lv at c1 HCnt
      generalize P[k].2 = iv at c2 HCnt
      have hk1 : (k : Int) < (P.length : Int) := by omega
      have hk0 : (0 : Int) ≤ (k : Int) := by omega
      have BA : Hid (Blk (wr.alloc (.cells #[.int .u64 (lv : Int), .int .u64 (iv : Int)] 26)) wr.heap.size 26 #[.int .u64 (lv : Int), .int .u64 (iv : Int)]) := Blk.new _ _ _
      have HBw := HBox.out.below' hB
      have zw : w.heap.size < wr.heap.size := HBw.lt
      obtain ⟨r1, r2, r3, r4, r5, r6, r7, r8, r9, r10⟩ := HBw.five
      clear hc hPk HBw
      go_wp2_with fail
      clear r1 r2 r3 r4 r5 r6 r7 r8 r9 r10
      obtain ⟨wo, rfl⟩ : ∃ wo : World, wo = wr := ⟨_, rfl⟩
      have B0 : Below w1.heap.size w1 (wo.alloc (.cells #[.int .u64 (lv : Int), .int .u64 (iv : Int)] 26)) := hB.alloc hB.size _
      have z0 : wo.heap.size < (wo.alloc (.cells #[.int .u64 (lv : Int), .int .u64 (iv : Int)] 26)).heap.size := BA.out.lt
      generalize wo.alloc (.cells #[.int .u64 (lv : Int), .int .u64 (iv : Int)] 26) = w2 at *
      generalize wo.heap.size = ga at *
      go_loopw [11, 105] (fun fv jv wi => ∃ j f : Nat, j ≤ Q.length ∧ f ≤ j ∧ Hid (f = (Q.take j).count (lv, iv)) ∧ fv = .int .i64 (f : Int) ∧ jv = .int .i64 (j : Int) ∧ Below w2.heap.size w2 wi) (fun _ jv _ => Q.length - (intOf jv).toNat)
      case atStart => exact ⟨0, 0, Nat.zero_le _, Nat.zero_le _, Lib.hid (by simp), rfl, rfl, Below.refl _ _⟩
      case round =>
        obtain ⟨j, f, hj, hfj, HF, rfl, rfl, hW⟩ := hrel
        by_cases hjl : j < Q.length
        · obtain ⟨g2, o2, rfl, hcq⟩ := hat3 (by omega)
          obtain ⟨d1, d2⟩ := hcq j hjl
          have BW : Below w1.heap.size w1 wr := B0.trans (hW.mono B0.size)
          have d1 := (BW.cell (World.block_lt_of_cell? w1 _ d1)).trans d1
          have d2 := (BW.cell (World.block_lt_of_cell? w1 _ d2)).trans d2
          obtain ⟨a1, a2, _, _⟩ := (BA.out.below' hW).two
          have hct := count_take Q (lv, iv) j hjl
          rw [← HF.out] at hct
          have hQj : Q[j] = (Q[j].1, Q[j].2) := rfl
          rw [hQj] at hct
          generalize Q[j].1 = jl at d1 hct
          generalize Q[j].2 = ji at d2 hct
          have hj1 : (j : Int) < (Q.length : Int) := by omega
          have hj0 : (0 : Int) ≤ (j : Int) := by omega
          have zr : ga < wr.heap.size := Nat.lt_of_lt_of_le z0 hW.size
          clear hcq hQj BW
          by_cases hl : jl = lv
          · subst hl
            by_cases hi : ji = iv
            · subst hi
              rw [if_pos rfl] at hct
              have HN := Lib.hid hct.symm
              clear hct HF
              go_wp2_with fail
              go_roundw
              case rel => exact ⟨j + 1, f + 1, by omega, by omega, HN, by go_num, by go_num, hW.alloc hW.size _⟩
              case measure => simp [intOf] <;> omega
            · rw [if_neg (by simpa using hi)] at hct
              have HN := Lib.hid hct.symm
              have hne : ¬ ((iv : Int) = (ji : Int)) := by omega
              clear hct HF hi
              go_wp2_with fail
              go_roundw
              case rel => exact ⟨j + 1, f, by omega, by omega, HN, rfl, by go_num, hW.alloc hW.size _⟩
              case measure => simp [intOf] <;> omega
          · rw [if_neg (by simp [hl])] at hct
            have HN := Lib.hid hct.symm
            have hne : ¬ ((lv : Int) = (jl : Int)) := by omega
            clear hct HF hl
            go_wp2_with fail
            go_roundw
            case rel => exact ⟨j + 1, f, by omega, by omega, HN, rfl, by go_num, hW.alloc hW.size _⟩
            case measure => simp [intOf] <;> omega
        · have hj1 : ¬ (j : Int) < (Q.length : Int) := by omega
          have hf1 : f = 1 := by rw [HF.out, List.take_of_length_le (by omega), HCnt.out]
          subst hf1
          clear HF
          go_wp2_with fail
          go_roundw
          case rel => exact ⟨k + 1, by omega, by go_num, B0.trans (hW.mono B0.size)⟩
          case measure => simp [intOf] <;> omega
    · have hk1 : ¬ (k : Int) < (P.length : Int) := by omega
      go_wp2_with fail
      go_ret
      exact ⟨rfl, B1.trans (hB.mono B1.size)⟩
end Go.Proofs.YtniodnkejpbheaaFmt
