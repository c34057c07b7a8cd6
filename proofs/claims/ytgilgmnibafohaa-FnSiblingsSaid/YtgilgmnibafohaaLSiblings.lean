/- Siblings have one parent, and are siblings of each other; both cover what it covers. -/
import Derived.Test.YtgilgmnibafohaaOpen
import Derived.Test.YtgilgmnibafohaaNode
import Derived.Test.YtgilgmnibafohaaPlain
import Derived.Deep.RegionHeld3
namespace Go.Proofs.Ytgilgmnibafohaa.fnSiblings
open Go.ChangeShapes Go.WideShapes Go.ChangeAt Go.RowKit
theorem cell_next {W w' : World} (hb : Below W.heap.size W w') {p : Addr} {v : Value} (h : W.cell? p = some v) : w'.cell? p = some v := (hb.cell (World.block_lt_of_cell? W p h)).trans h
theorem keepS {w W w' : World} {g0 g1 : Nat} {v1 v2 v3 v4 : Value} (hb : Below W.heap.size W w') (h : W.cell? ⟨g0, 0, none⟩ = some v1 ∧ W.cell? ⟨g0, 1, none⟩ = some v2 ∧ W.cell? ⟨g1, 0, none⟩ = some v3 ∧ W.cell? ⟨g1, 1, none⟩ = some v4 ∧ Below g0 w W) :
    w'.cell? ⟨g0, 0, none⟩ = some v1 ∧ w'.cell? ⟨g0, 1, none⟩ = some v2 ∧ w'.cell? ⟨g1, 0, none⟩ = some v3 ∧ w'.cell? ⟨g1, 1, none⟩ = some v4 ∧ Below g0 w w' :=
  ⟨cell_next hb h.1, cell_next hb h.2.1, cell_next hb h.2.2.1, cell_next hb h.2.2.2.1, h.2.2.2.2.trans (hb.mono (Nat.le_of_lt (World.block_lt_of_cell? W _ h.1)))⟩
set_option maxHeartbeats 1600000 in
theorem walkAt (a b c m q r p s A1 A2 C1 C2 : Int) (h0 : 0 ≤ a) (h4 : a ≤ 40) (h2 : 0 ≤ b) (h5 : b ≤ 1048576) (hc0 : 0 ≤ c) (hc1 : c ≤ 1048577) (hx : bits .xor .u64 b 1 = c) (hx2 : bits .xor .u64 c 1 = b) (hd : c / 2 = b / 2) (hne : c ≠ b)
    (_hmq : m < q) (_hqr : q < r) (k1 : IntKind.u64.wrap (A2 - A1) = p) (k2 : IntKind.u64.wrap (C2 - C1) = p) (k3 : IntKind.u64.wrap (r - m) = s) (k4 : IntKind.u64.wrap (2 * p) = s)
    (f1 : IntKind.u64.wrap (b / 2 * 2 ^ (a + 1).toNat) = m) (f2 : IntKind.u64.wrap ((b / 2 + 1) * 2 ^ (a + 1).toNat) = r)
    (a1 : IntKind.u64.wrap (b * 2 ^ a.toNat) = A1) (a2 : IntKind.u64.wrap ((b + 1) * 2 ^ a.toNat) = A2) (c1 : IntKind.u64.wrap (c * 2 ^ a.toNat) = C1) (c2 : IntKind.u64.wrap ((c + 1) * 2 ^ a.toNat) = C2)
    (hmin : (A1 < C1 ∧ A1 = m ∧ A2 < C2 ∧ C2 = r) ∨ (C1 < A1 ∧ C1 = m ∧ C2 < A2 ∧ A2 = r)) (w : World) :
    Calls Try.prog 7 #[.agg #[.int .u64 a, .int .u64 b]] w fun e w' => e = .returned (.bool true) ∧ Below w.heap.size w w' := by
  have g1 : IntKind.u64.wrap (a + 1) = a + 1 := by rw [IntKind.wrap_u64]; omega
  have g2 : IntKind.u64.wrap (b + 1) = b + 1 := by rw [IntKind.wrap_u64]; omega
  have g3 : IntKind.u64.wrap (c + 1) = c + 1 := by rw [IntKind.wrap_u64]; omega
  have g4 : IntKind.u64.wrap (b / 2 + 1) = b / 2 + 1 := by rw [IntKind.wrap_u64]; omega
  have gn : (c == b) = false := by simp [hne]
  clear hne
  go_enter Try.func7, Try.ntmps7
  go_wp2_with fail
  refine (implSibling _ _ _).mono ?_; rintro e w1 ⟨rfl, hb1⟩; obtain ⟨hc1, hf1, hz1⟩ := bcell hb1; simp only [World.size_alloc] at hz1 hc1 hf1
  have z01 : w.heap.size < w1.heap.size := by omega
  rw [hx]
  go_wp2_with fail
  refine (implCoverage _ _ h0 (by omega) _).mono ?_; rintro e w2 ⟨rfl, hb2⟩; obtain ⟨hc2, hf2, hz2⟩ := bcell hb2; simp only [World.size_alloc] at hz2 hc2 hf2
  have z02 : w.heap.size < w2.heap.size := by omega
  have z12 : w1.heap.size < w2.heap.size := by omega
  rw [g2, a1, a2]
  go_wp2_with fail
  refine (implCoverage _ _ h0 (by omega) _).mono ?_; rintro e w3 ⟨rfl, hb3⟩; obtain ⟨hc3, hf3, hz3⟩ := bcell hb3
  have z03 : w.heap.size < w3.heap.size := by omega
  have z13 : w1.heap.size < w3.heap.size := by omega
  rw [g3, c1, c2]
  go_wp2_with fail
  refine (implParent _ _ _).mono ?_; rintro e w4 ⟨rfl, hb4⟩; obtain ⟨hc4, hf4, hz4⟩ := bcell hb4
  have z04 : w.heap.size < w4.heap.size := by omega
  have z14 : w1.heap.size < w4.heap.size := by omega
  rw [g1]
  go_wp2_with fail
  refine (implCoverage _ _ (by omega) (by omega) _).mono ?_; rintro e w5 ⟨rfl, hb5⟩; obtain ⟨hc5, hf5, hz5⟩ := bcell hb5
  have z05 : w.heap.size < w5.heap.size := by omega
  have z15 : w1.heap.size < w5.heap.size := by omega
  rw [g4, f1, f2]
  have s1 : w5.cell? ⟨w.heap.size, 0, none⟩ = some (.int .u64 a) := by rw [hc5 _ _ z04, hc4 _ _ z03, hc3 _ _ z02, hc2 _ _ (by omega), World.cell?_alloc_past _ _ _ z01, hc1 _ _ (by omega)]; simp
  have s2 : w5.cell? ⟨w.heap.size, 1, none⟩ = some (.int .u64 b) := by rw [hc5 _ _ z04, hc4 _ _ z03, hc3 _ _ z02, hc2 _ _ (by omega), World.cell?_alloc_past _ _ _ z01, hc1 _ _ (by omega)]; simp
  have s3 : w5.cell? ⟨w1.heap.size, 0, none⟩ = some (.int .u64 a) := by rw [hc5 _ _ z14, hc4 _ _ z13, hc3 _ _ z12, hc2 _ _ (by omega)]; simp
  have s4 : w5.cell? ⟨w1.heap.size, 1, none⟩ = some (.int .u64 c) := by rw [hc5 _ _ z14, hc4 _ _ z13, hc3 _ _ z12, hc2 _ _ (by omega)]; simp
  have B5 : Below w.heap.size w w5 := (((((Below.refl _ _).alloc (Nat.le_refl _) _).trans (hb1.mono (by simp))).alloc (by omega) _).trans (hb2.mono (by simp; omega))).trans ((hb3.mono (by omega)).trans ((hb4.mono (by omega)).trans (hb5.mono (by omega))))
  clear hb1 hc1 hf1 hz1 z01 hb2 hc2 hf2 hz2 z02 z12 hb3 hc3 hf3 hz3 z03 z13 hb4 hc4 hf4 hz4 z04 z14 hb5 hc5 hf5 hz5 a1 a2 c1 c2 f1 f2 g2 g3 g4
  generalize hg0 : w.heap.size = g0 at *
  have HG : Hid (w.heap.size = g0) := hg0
  clear hg0
  generalize w1.heap.size = g1' at *
  go_wp2_with fail
  have mn : (if C1 < A1 then C1 else A1) = m := by split <;> omega
  have mx : (if A2 < C2 then C2 else A2) = r := by split <;> omega
  clear hmin _hmq _hqr
  go_region_held3 (fun w' => w'.cell? ⟨g0, 0, none⟩ = some (.int .u64 a) ∧ w'.cell? ⟨g0, 1, none⟩ = some (.int .u64 b) ∧ w'.cell? ⟨g1', 0, none⟩ = some (.int .u64 a) ∧ w'.cell? ⟨g1', 1, none⟩ = some (.int .u64 c) ∧ Below g0 w w')
    (first | assumption | exact ⟨s1, s2, s3, s4, B5.drew⟩ | exact keepS hb (by assumption))
    (first | (go_at_call 16; refine (implSibling _ _ _).mono ?_; rintro e w' ⟨rfl, hb⟩) | (go_at_call 15; refine (implParent _ _ _).mono ?_; rintro e w' ⟨rfl, hb⟩))
  obtain ⟨_, _, _, _, hB⟩ : w'.cell? ⟨g0, 0, none⟩ = some (.int .u64 a) ∧ w'.cell? ⟨g0, 1, none⟩ = some (.int .u64 b) ∧ w'.cell? ⟨g1', 0, none⟩ = some (.int .u64 a) ∧ w'.cell? ⟨g1', 1, none⟩ = some (.int .u64 c) ∧ Below g0 w w' := by assumption
  clear s1 s2 s3 s4 B5 z05 z15 hb mn mx k1 k2 k3 k4 hx hx2 hd gn g1
  go_wp2
  go_ret
  exact ⟨rfl, by rw [HG.out]; exact hB⟩
theorem walk (a b : Int) (w0 : 0 ≤ a ∧ a < 18446744073709551616 ∧ 0 ≤ b ∧ b < 18446744073709551616) (w : World) :
    Calls Try.prog 7 #[.agg #[.int .u64 a, .int .u64 b]] w fun e w' => e = .returned (.bool true) ∧ Below w.heap.size w w' := by
  obtain ⟨h0, _, h2, _⟩ := w0
  by_cases h4 : a ≤ 40
  · by_cases h5 : b ≤ 1048576
    · obtain ⟨c, m, q, r, p, s, hc0, hc1, hx, hx2, hd, hne, hmq, hqr, k1, k2, k3, k4, f1, f2, hh⟩ := Pl.sib_nums a b h0 h4 h2 h5
      rcases hh with ⟨a1, a2, c1, c2⟩ | ⟨a1, a2, c1, c2⟩
      · exact walkAt a b c m q r p s m q q r h0 h4 h2 h5 hc0 hc1 hx hx2 hd hne hmq hqr k1 k2 k3 k4 f1 f2 a1 a2 c1 c2 (.inl ⟨hmq, rfl, hqr, rfl⟩) w
      · exact walkAt a b c m q r p s q r m q h0 h4 h2 h5 hc0 hc1 hx hx2 hd hne hmq hqr k2 k1 k3 k4 f1 f2 a1 a2 c1 c2 (.inr ⟨hmq, rfl, hqr, rfl⟩) w
    · go_enter Try.func7, Try.ntmps7
      go_wp2
      go_ret
      exact ⟨rfl, (Below.refl _ _).alloc (Nat.le_refl _) _⟩
  · go_enter Try.func7, Try.ntmps7
    go_wp2
    go_ret
    exact ⟨rfl, (Below.refl _ _).alloc (Nat.le_refl _) _⟩
set_option maxRecDepth 100000 in
theorem lifted (os : Os) (started : os.Started) (H : Type) (enc : TypeId × Value → H) :
    ReturnsInHanded {} Try.checked os 7 .any (Rows.fnSiblingsSpec.pre6 enc Try.prog Try.f7 Rows.fnSiblingsRow.domain false) (Rows.fnSiblingsSpec.post enc Try.prog Try.f7 false true false false) := by
  refine returnsInHanded_of_change (C := Try.checked) own started (by kernel_rfl) Try.func7
    (ChangeSpec.witness6 (enc := enc) (C := Try.checked) false ⟨#[], #[.agg #[.int .u64 0, .int .u64 0]], []⟩ 8 (by kernel_rfl) (by kernel_rfl) (by kernel_rfl) (by kernel_rfl)) ?_
  intro W base args ds gs before hval0 hW hcnd _
  have hval : ∀ (j : Nat) t v, Try.f7.params[j]? = some t → args[j]? = some v → Value.okWide Try.prog W .any base t v := hval0
  have hW' := hW
  obtain ⟨p, q, hA0, hV, rfl, hfz, hnd⟩ := hW
  have hA : DataW.TrodAll enc Try.prog W 0 (fun _ => true) true Try.f7.params.toList args.toList ds p := hA0
  rw [Try.params7] at hA hval
  obtain ⟨v0, vs0, d0, ds0, p0, q0, hargs, rfl, rfl, h0, r0⟩ := trodAll_cons hA
  obtain ⟨rfl, rfl, rfl⟩ := trodAll_nil r0
  obtain rfl : args = #[v0] := by cases args; simp_all
  obtain ⟨rfl, rfl⟩ := trodVars_none hV
  have k0 := h0
  have lt0 : ∀ x ∈ p0, x.block < W.heap.size := by obtain ⟨m, hm⟩ := k0; exact DataW.trod_lt m _ _ _ hm
  obtain ⟨a0, b0, rfl, w0⟩ := openNode (hval 0 25 v0 rfl rfl) h0
  refine (walk a0 b0 w0 W).mono fun e W' ⟨he, bel⟩ => ?_
  subst he
  exact ⟨_, rfl, _, _, _, [], _, [], hW', trodAll_mk1 (shut_bool Try.underlying4 _), (trodAll_cons_mk (Below.trod laidOut (by kernel_rfl) (of_decide_eq_true (by kernel_rfl)) k0 bel lt0) trodAll_mk0), rfl, bel.frame _, fun h => by cases h⟩

theorem over : Rows.fnSiblingsRow.holds Try.pinned (OpenSpec.ofChange Rows.fnSiblingsSpec) :=
  OpenClaim.holds_of_wide 7 Try.f7 rfl rfl rfl rfl rfl rfl rfl ⟨rfl, rfl, rfl, rfl, rfl⟩ rfl rfl rfl rfl rfl (by kernel_rfl) Try.func7 (by kernel_rfl)
    (of_decide_eq_true (by kernel_rfl)) (by unfold Func.isWrapper; first | (rw [if_pos (by decide +kernel)]; kernel_rfl) | (rw [if_neg (by decide +kernel)]; exact ⟨rfl, rfl⟩))
    (fun os started H enc _ => lifted os started H enc)
theorem proved : Rows.FnSiblingsSaid := over
end Go.Proofs.Ytgilgmnibafohaa.fnSiblings
