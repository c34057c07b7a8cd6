/- The left mask from its least bit on, and the right mask from its greatest bit on, tell the sizes of the fewest perfect trees. -/
import Derived.Test.YtgilgmnibafohaaOpen
import Derived.Test.YtgilgmnibafohaaBits
import Derived.Test.YtgilgmnibafohaaWorks
import Derived.Test.YtgilgmnibafohaaPieces
import Derived.Deep.QuietTactic
import Derived.BigQuiet
import Derived.Deep.AppendLies
import Derived.Deep.Onto
namespace Go.Proofs.Ytgilgmnibafohaa.fnExactDecompose
open Go.ChangeShapes Go.WideShapes Go.ChangeAt Go.RowKit
theorem u64Info : (Try.prog.info? 23).map (fun i => (i.zero, i.size, i.bytes)) = some (some (.int .u64 0), 1, 8) := by kernel_rfl
/-- The cells of sizes. -/
def sz (l : List Nat) : List Value := l.map fun k => .int .u64 ((2 : Int) ^ k)
theorem sz_snoc (l : List Nat) (k : Nat) : sz (l ++ [k]) = sz l ++ [.int .u64 ((2 : Int) ^ k)] := by simp [sz]
theorem lenOk8 {n : Nat} (h : n ≤ 128) : (n + 1) * 8 ≤ 140737488355328 := by omega
theorem pow_w (k : Nat) (h : k < 64) : IntKind.u64.wrap ((2 : Int) ^ k) = (2 : Int) ^ k := (pow_wrap k (by omega)).1
theorem bit_test (l k : Nat) : (((l : Int) / 2 ^ k).tmod 2 == 1) = decide (l / 2 ^ k % 2 = 1) := by
  have e : (l : Int) / 2 ^ k = ((l / 2 ^ k : Nat) : Int) := by simp
  rw [e, Int.tmod_eq_emod_of_nonneg (Int.natCast_nonneg _), Bool.eq_iff_iff]
  simp only [beq_iff_eq, decide_eq_true_eq]
  omega
theorem asc_le (f k m : Nat) : (Pl.asc f k m).length ≤ f := by rw [Pl.asc_length]; exact Pl.pop_le f m
theorem from_le (j m : Nat) (h : j ≤ 64) : (Pl.ascFrom j m).length ≤ 64 := by unfold Pl.ascFrom; have := asc_le (64 - j) j (m / 2 ^ j); omega
def Up (w wr : World) (l k : Nat) (v : Value) : Prop := wr.ownsRow w.heap.size 23 1 v (Pl.asc k 0 l).length (sz (Pl.asc k 0 l))
def Down (w wr : World) (l r j : Nat) (v : Value) : Prop := wr.ownsRow w.heap.size 23 1 v (Pl.asc 64 0 l ++ (Pl.ascFrom j r).reverse).length (sz (Pl.asc 64 0 l ++ (Pl.ascFrom j r).reverse))
set_option maxHeartbeats 3000000 in
theorem walkAt (b e : Nat) (hb : b < 18446744073709551616) (he : e < 18446744073709551616) (hle : b ≤ e) (w : World) :
    Calls Try.prog 11 #[.int .u64 b, .int .u64 e] w fun e w' => e = .returned (.bool true) ∧ Below w.heap.size w w' := by
  obtain ⟨i0, hi, hz0, hz1, hz2⟩ := info_parts u64Info
  have H1 := dec_c b e hle he
  have H2 := pieces_c b e hb he
  have hlev := Pl.dec_levels b e hle he
  have hlt := Pl.dec_lt b e he
  have hg : ¬ (e : Int) < (b : Int) := by omega
  obtain ⟨L, hL⟩ : ∃ L, L = Pl.pieces b e := ⟨_, rfl⟩
  obtain ⟨l, hl⟩ : ∃ l, l = Pl.decL b e := ⟨_, rfl⟩
  obtain ⟨r, hr⟩ : ∃ r, r = Pl.decR b e := ⟨_, rfl⟩
  rw [← hl, ← hr] at H1 hlev hlt
  have hLL := Pl.pieces_len b e he
  rw [← hL] at H2 hlev hLL
  have HE : Hid (L.map (·.1) = Pl.asc 64 0 l ++ (Pl.asc 64 0 r).reverse) := hlev
  have HD : Hid (∀ w : World, Calls Try.prog 25 #[.int .u64 b, .int .u64 e] w fun q w' => q = .returned (.tuple #[.int .u64 l, .int .u64 r]) ∧ w = w') := H1
  have HP : Hid (∀ w : World, Calls Try.prog 19 #[.int .u64 b, .int .u64 e] w (RetNodes w L)) := H2
  clear hL hl hr hlev hlt H1 H2 hle hb he
  go_enter Try.func11, Try.ntmps11
  go_wp2_with (go_at_call 17; refine (implDec HD.out).mono ?_; rintro e w' ⟨rfl, rfl⟩)
  go_loopw [7, 8] (fun v kv wr => ∃ k : Nat, k ≤ 64 ∧ kv = .int .i64 k ∧ Up w wr l k v ∧ Below w.heap.size w wr) (fun _ kv _ => 64 - (intOf kv).toNat)
  case atStart => exact ⟨0, by omega, rfl, World.ownsRow_lit _ _ 0 (Nat.le_refl _) (by unfold maxLen; omega) rfl, (Below.refl _ _).alloc (Nat.le_refl _) _⟩
  case round =>
    obtain ⟨k, hk, rfl, hup, hB⟩ := hrel
    by_cases hk2 : k < 64
    · have hbt := bit_test l k
      have hpw := pow_w k hk2
      by_cases hbit : l / 2 ^ k % 2 = 1
      · have hown := hup
        unfold Up at hown
        have hlen : (Pl.asc k 0 l).length ≤ 128 := by have := asc_le k 0 l; omega
        have HS : Hid (Pl.asc (k + 1) 0 l = Pl.asc k 0 l ++ [k]) := by have := Pl.asc_snoc k 0 l; rw [if_pos hbit, Nat.zero_add] at this; exact this
        rw [hbit] at hbt
        clear hbit
        have hbt' : (((l : Int) / 2 ^ k).tmod 2 == 1) = true := by rw [hbt]; rfl
        clear hbt hup
        go_wp2_with (at_builtin; refine wpList_append_own _ rfl _ _ 36 rfl w.heap.size 23 i0 (.int .u64 0) 1 8 Try.underlying36 hi hz0 hz1 hz2 rfl (by decide) _ _ _ rfl (hown.alloc _) ⟨wr.heap.size, 0, none⟩ 1 1 [.int .u64 ((2 : Int) ^ k)] rfl rfl (World.news_of_block (heap_alloc_new wr _)) (by simp [Value.oneCell']) (lenOk1 hlen) (lenOk8 hlen) (by have := hB.size; simp; omega) ?_; intro v' w1 hown' hgrow _)
        go_roundw
        case rel => exact ⟨k + 1, by omega, by go_num, by unfold Up; rw [HS.out, sz_snoc, List.length_append]; exact hown', (hB.alloc hB.size _).grown hgrow (by have := hB.size; simp; omega) (fun k hk => (hown.lt k hk).1)⟩
        case measure => simp [intOf] <;> omega
      · have HS : Hid (Pl.asc (k + 1) 0 l = Pl.asc k 0 l) := by have := Pl.asc_snoc k 0 l; rw [if_neg hbit, List.append_nil] at this; exact this
        have hbt' : (((l : Int) / 2 ^ k).tmod 2 == 1) = false := by rw [hbt]; simp [hbit]
        clear hbt hbit
        go_wp2
        go_roundw
        case rel => exact ⟨k + 1, by omega, by go_num, by unfold Up; rw [HS.out]; exact hup, hB⟩
        case measure => simp [intOf] <;> omega
    · have hstart : Down w wr l r 64 u7 := by
        obtain rfl : k = 64 := by omega
        unfold Down; rw [Pl.ascFrom_top]; simpa [Up] using hup
      have hk3 : ¬ (k : Int) < 64 := by omega
      clear hup hk2 hk
      go_wp2
      go_loopw [7, 9] (fun v kv wr => ∃ j : Nat, j ≤ 64 ∧ kv = .int .i64 ((j : Int) - 1) ∧ Down w wr l r j v ∧ Below w.heap.size w wr) (fun _ kv _ => (intOf kv + 1).toNat)
      case atStart => exact ⟨64, by omega, rfl, hstart, hB⟩
      case round =>
        obtain ⟨j, hj, rfl, hdn, hB⟩ := hrel
        clear hstart
        by_cases hj0 : j = 0
        · subst hj0
          have hfin : wr.ownsRow w.heap.size 23 1 u7 L.length (sz (L.map (·.1))) := by
            have := hdn
            unfold Down at this
            rw [Pl.ascFrom_zero, ← HE.out, List.length_map] at this
            exact this
          clear hdn hj
          rcases own_cases hfin with ⟨hn0, A, c, rfl⟩ | ⟨hn0, g, c, rfl, _⟩
          · go_wp2_with fail
            refine (HP.out _).mono ?_; rintro e w1 ⟨v, rfl, hown2, hb⟩
            obtain ⟨A2, c2, rfl, _⟩ := own_slice hown2
            have hw1 : Below w.heap.size w w1 := hB.trans (hb.mono hB.size)
            have hl0 : ¬ (0 : Int) < (L.length : Int) := by omega
            have hl1 : L.length ≤ 0 := by omega
            clear hfin hown2 hb hB HE HP HD
            go_wp2_with fail
            refine wp_loop_rounds 1 ?_
            rw [rounds_succ]
            go_wp2_with (go_at_call 18; refine (works_c _).mono ?_; rintro e w' ⟨rfl, hb⟩)
            go_ret
            exact ⟨rfl, hw1.trans (Below.mono (by assumption) hw1.size)⟩
          · go_wp2_with fail
            refine (HP.out _).mono ?_; rintro e w1 ⟨v, rfl, hown2, hb⟩
            have hown1 := own_below hfin hb
            rcases own_cases hown2 with ⟨h0, _⟩ | ⟨_, g2, c2, rfl, _⟩
            · omega
            have hw1 : Below w.heap.size w w1 := hB.trans (hb.mono hB.size)
            have hB0 := hB.size
            have HV : Hid (∀ (k : Nat) (h : k < L.length), L[k].1 < 64) := fun k h => by
              have hm : L[k].1 ∈ L.map (·.1) := List.mem_map.2 ⟨L[k], List.getElem_mem h, rfl⟩
              rw [HE.out, List.mem_append, List.mem_reverse] at hm
              rcases hm with hm | hm
              · exact Nat.lt_of_lt_of_le (Pl.asc_lt _ _ _ _ hm) (by omega)
              · exact Nat.lt_of_lt_of_le (Pl.asc_lt _ _ _ _ hm) (by omega)
            clear hfin hb hB HE HP HD
            go_wp2_with fail
            go_loopw [61] (fun kv wr => ∃ k : Nat, k ≤ L.length ∧ kv = .int .i64 k ∧ wr.ownsRow w.heap.size 23 1 (.slice (some ⟨g, 0, none⟩) L.length c) L.length (sz (L.map (·.1))) ∧ wr.ownsRow w.heap.size 25 2 (.slice (some ⟨g2, 0, none⟩) L.length c2) L.length (nodeCells L) ∧ Below w.heap.size w wr) (fun kv _ => L.length - (intOf kv).toNat)
            case atStart => exact ⟨0, Nat.zero_le _, rfl, hown1, hown2.mono hB0, hw1⟩
            case round =>
              obtain ⟨k, hk, rfl, o1, o2, hB⟩ := hrel
              by_cases hkl : k < L.length
              · have c1 : wr.cell? ⟨g, k, none⟩ = some (.int .u64 ((2 : Int) ^ L[k].1)) := by rw [o1.cellAt k (by omega)]; simp [sz, hkl]
                have c2 : wr.cell? ⟨g2, k * 2, none⟩ = some (.int .u64 L[k].1) := by rw [o2.cellAt (k * 2) (by omega), Nat.mul_comm]; exact (nodeCells_at L k hkl).1
                have c3 : wr.cell? ⟨g2, k * 2 + 1, none⟩ = some (.int .u64 L[k].2) := by rw [o2.cellAt (k * 2 + 1) (by omega), Nat.mul_comm]; exact (nodeCells_at L k hkl).2
                have hv := HV.out k hkl
                generalize L[k].1 = lv at c1 c2 hv
                generalize L[k].2 = iv at c3
                have hpw := pow_w lv hv
                have hmin : min lv 64 = lv := by omega
                have hg1 := World.block_lt_of_cell? wr _ c1
                have hg2 := World.block_lt_of_cell? wr _ c2
                have hk0 : (0 : Int) ≤ (k : Int) := by omega
                have hk1 : (k : Int) < (L.length : Int) := by omega
                go_wp2_with fail
                go_quiet (fail)
                go_wp2
                go_roundw
                case rel => exact ⟨k + 1, by omega, by go_num, (o1.alloc _), (o2.alloc _), below_drewN (hB.alloc hB.size _) _⟩
                case measure => simp [intOf] <;> omega
              · have hk1 : ¬ (k : Int) < (L.length : Int) := by omega
                go_wp2_with (go_at_call 18; refine (works_c _).mono ?_; rintro e w' ⟨rfl, hb⟩)
                go_ret
                exact ⟨rfl, hB.trans (Below.mono (by assumption) hB.size)⟩
        · obtain ⟨k, rfl⟩ : ∃ k, j = k + 1 := ⟨j - 1, by omega⟩
          have hk2 : k < 64 := by omega
          have hbt := bit_test r k
          have hpw := pow_w k hk2
          have hown := hdn
          unfold Down at hown
          by_cases hbit : r / 2 ^ k % 2 = 1
          · have HS : Hid (Pl.asc 64 0 l ++ (Pl.ascFrom k r).reverse = Pl.asc 64 0 l ++ (Pl.ascFrom (k + 1) r).reverse ++ [k]) := by
              have := Pl.ascFrom_step k r hk2
              rw [if_pos hbit] at this
              rw [this]
              simp [Hid]
            have hlen : (Pl.asc 64 0 l ++ (Pl.ascFrom (k + 1) r).reverse).length ≤ 128 := by
              have h1 := asc_le 64 0 l
              have h2 := from_le (k + 1) r hj
              rw [List.length_append, List.length_reverse]
              omega
            have hbt' : (((r : Int) / 2 ^ k).tmod 2 == 1) = true := by rw [hbt]; simp [hbit]
            clear hbt hbit hdn hj0
            go_wp2_with (at_builtin; refine wpList_append_own _ rfl _ _ 36 rfl w.heap.size 23 i0 (.int .u64 0) 1 8 Try.underlying36 hi hz0 hz1 hz2 rfl (by decide) _ _ _ rfl (hown.alloc _) ⟨wr.heap.size, 0, none⟩ 1 1 [.int .u64 ((2 : Int) ^ k)] rfl rfl (World.news_of_block (heap_alloc_new wr _)) (by simp [Value.oneCell']) (lenOk1 hlen) (lenOk8 hlen) (by have := hB.size; simp; omega) ?_; intro v' w1 hown' hgrow _)
            go_roundw
            case rel => exact ⟨k, by omega, by go_num, by unfold Down; rw [HS.out, sz_snoc, List.length_append]; exact hown', (hB.alloc hB.size _).grown hgrow (by have := hB.size; simp; omega) (fun k hk => (hown.lt k hk).1)⟩
            case measure => simp [intOf] <;> omega
          · have HS : Hid (Pl.ascFrom k r = Pl.ascFrom (k + 1) r) := by
              have := Pl.ascFrom_step k r hk2
              rw [if_neg hbit, List.nil_append] at this
              exact this
            have hbt' : (((r : Int) / 2 ^ k).tmod 2 == 1) = false := by rw [hbt]; simp [hbit]
            clear hbt hbit hown hj0
            go_wp2
            go_roundw
            case rel => exact ⟨k, by omega, by go_num, by unfold Down; rw [HS.out]; exact hdn, hB⟩
            case measure => simp [intOf] <;> omega
theorem walk (a0 : Int) (w0 : 0 ≤ a0 ∧ a0 < 18446744073709551616) (a1 : Int) (w1 : 0 ≤ a1 ∧ a1 < 18446744073709551616) (w : World) :
    Calls Try.prog 11 #[.int .u64 a0, .int .u64 a1] w fun e w' => e = .returned (.bool true) ∧ Below w.heap.size w w' := by
  obtain ⟨b, rfl⟩ := Int.eq_ofNat_of_zero_le w0.1
  obtain ⟨e, rfl⟩ := Int.eq_ofNat_of_zero_le w1.1
  have hb : b < 18446744073709551616 := by omega
  have he : e < 18446744073709551616 := by omega
  by_cases hle : b ≤ e
  · exact walkAt b e hb he hle w
  · have hg : (e : Int) < (b : Int) := by omega
    clear w0 w1 hb he hle
    go_enter Try.func11, Try.ntmps11
    go_wp2
    go_ret
    exact ⟨rfl, Below.refl _ _⟩
set_option maxRecDepth 100000 in
theorem lifted (os : Os) (started : os.Started) (H : Type) (enc : TypeId × Value → H) :
    ReturnsInHanded {} Try.checked os 11 .any (Rows.fnExactDecomposeSpec.pre6 enc Try.prog Try.f11 Rows.fnExactDecomposeRow.domain false) (Rows.fnExactDecomposeSpec.post enc Try.prog Try.f11 false true false false) := by
  refine returnsInHanded_of_change (C := Try.checked) own started (by kernel_rfl) Try.func11
    (ChangeSpec.witness6 (enc := enc) (C := Try.checked) false ⟨#[], #[.int .u64 0, .int .u64 0], []⟩ 8 (by kernel_rfl) (by kernel_rfl) (by kernel_rfl) (by kernel_rfl)) ?_
  intro W base args ds gs before hval0 hW hcnd _
  have hval : ∀ (j : Nat) t v, Try.f11.params[j]? = some t → args[j]? = some v → Value.okWide Try.prog W .any base t v := hval0
  have hW' := hW
  obtain ⟨p, q, hA0, hV, rfl, hfz, hnd⟩ := hW
  have hA : DataW.TrodAll enc Try.prog W 0 (fun _ => true) true Try.f11.params.toList args.toList ds p := hA0
  rw [Try.params11] at hA hval
  obtain ⟨v0, vs0, d0, ds0, p0, q0, hargs, rfl, rfl, h0, r0⟩ := trodAll_cons hA
  obtain ⟨v1, vs1, d1, ds1, p1, q1, rfl, rfl, rfl, h1, r1⟩ := trodAll_cons r0
  obtain ⟨rfl, rfl, rfl⟩ := trodAll_nil r1
  obtain rfl : args = #[v0, v1] := by cases args; simp_all
  obtain ⟨rfl, rfl⟩ := trodVars_none hV
  have k0 := h0
  have lt0 : ∀ x ∈ p0, x.block < W.heap.size := by obtain ⟨m, hm⟩ := k0; exact DataW.trod_lt m _ _ _ hm
  obtain ⟨a0, rfl, hd0, hp0, w0⟩ := open_int Try.underlying23 (hval 0 23 v0 rfl rfl) h0
  have k1 := h1
  have lt1 : ∀ x ∈ p1, x.block < W.heap.size := by obtain ⟨m, hm⟩ := k1; exact DataW.trod_lt m _ _ _ hm
  obtain ⟨a1, rfl, hd1, hp1, w1⟩ := open_int Try.underlying23 (hval 1 23 v1 rfl rfl) h1
  refine (walk a0 (bound_u64 w0) a1 (bound_u64 w1) W).mono fun e W' ⟨he, bel⟩ => ?_
  subst he
  exact ⟨_, rfl, _, _, _, [], _, [], hW', trodAll_mk1 (shut_bool Try.underlying4 _), (trodAll_cons_mk (Below.trod laidOut (by kernel_rfl) (of_decide_eq_true (by kernel_rfl)) k0 bel lt0) (trodAll_cons_mk (Below.trod laidOut (by kernel_rfl) (of_decide_eq_true (by kernel_rfl)) k1 bel lt1) trodAll_mk0)), rfl, bel.frame _, fun h => by cases h⟩

theorem over : Rows.fnExactDecomposeRow.holds Try.pinned (OpenSpec.ofChange Rows.fnExactDecomposeSpec) :=
  OpenClaim.holds_of_wide 11 Try.f11 rfl rfl rfl rfl rfl rfl rfl ⟨rfl, rfl, rfl, rfl, rfl⟩ rfl rfl rfl rfl rfl (by kernel_rfl) Try.func11 (by kernel_rfl)
    (of_decide_eq_true (by kernel_rfl)) (by unfold Func.isWrapper; first | (rw [if_pos (by decide +kernel)]; kernel_rfl) | (rw [if_neg (by decide +kernel)]; exact ⟨rfl, rfl⟩))
    (fun os started H enc _ => lifted os started H enc)
theorem proved : Rows.FnExactDecomposeSaid := over
end Go.Proofs.Ytgilgmnibafohaa.fnExactDecompose
