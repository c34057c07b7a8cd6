/- A compact range has as many nodes as the fewest perfect trees. -/
import Derived.Test.YtgilgmnibafohaaOpen
import Derived.Test.YtgilgmnibafohaaBits
import Derived.Test.YtgilgmnibafohaaWorks
import Derived.Test.YtgilgmnibafohaaPieces
namespace Go.Proofs.Ytgilgmnibafohaa.fnExactRangeSize
open Go.ChangeShapes Go.WideShapes Go.ChangeAt Go.RowKit
theorem walk (a0 : Int) (w0 : 0 ≤ a0 ∧ a0 < 18446744073709551616) (a1 : Int) (w1 : 0 ≤ a1 ∧ a1 < 18446744073709551616) (w : World) :
    Calls Try.prog 12 #[.int .u64 a0, .int .u64 a1] w fun e w' => e = .returned (.bool true) ∧ Below w.heap.size w w' := by
  obtain ⟨b, rfl⟩ := Int.eq_ofNat_of_zero_le w0.1
  obtain ⟨e, rfl⟩ := Int.eq_ofNat_of_zero_le w1.1
  have hb : b < 18446744073709551616 := by omega
  have he : e < 18446744073709551616 := by omega
  by_cases hle : b ≤ e
  · have H1 := implSize b e hle he
    have H2 := pieces_c b e hb he
    have hg : ¬ (e : Int) < (b : Int) := by omega
    clear w0 w1 hb he hle
    obtain ⟨L, hL⟩ : ∃ L, L = Pl.pieces b e := ⟨_, rfl⟩
    rw [← hL] at H1 H2
    clear hL
    go_enter Try.func12, Try.ntmps12
    go_wp2_with (first | (go_at_call 20; refine (H1 _).mono ?_; rintro e w' ⟨rfl, rfl⟩) | (go_at_call 19; refine (H2 _).mono ?_; rintro e w' ⟨v, rfl, hown, hb⟩; obtain ⟨A, c, rfl, _⟩ := own_slice hown) | (go_at_call 18; refine (works_c _).mono ?_; rintro e w' ⟨rfl, hb2⟩))
    go_ret
    exact ⟨rfl, Below.trans (by assumption) (Below.mono (by assumption) (Below.size (by assumption)))⟩
  · have hg : (e : Int) < (b : Int) := by omega
    clear w0 w1 hb he hle
    go_enter Try.func12, Try.ntmps12
    go_wp2
    go_ret
    exact ⟨rfl, Below.refl _ _⟩
set_option maxRecDepth 100000 in
theorem lifted (os : Os) (started : os.Started) (H : Type) (enc : TypeId × Value → H) :
    ReturnsInHanded {} Try.checked os 12 .any (Rows.fnExactRangeSizeSpec.pre6 enc Try.prog Try.f12 Rows.fnExactRangeSizeRow.domain false) (Rows.fnExactRangeSizeSpec.post enc Try.prog Try.f12 false true false false) := by
  refine returnsInHanded_of_change (C := Try.checked) own started (by kernel_rfl) Try.func12
    (ChangeSpec.witness6 (enc := enc) (C := Try.checked) false ⟨#[], #[.int .u64 0, .int .u64 0], []⟩ 8 (by kernel_rfl) (by kernel_rfl) (by kernel_rfl) (by kernel_rfl)) ?_
  intro W base args ds gs before hval0 hW hcnd _
  have hval : ∀ (j : Nat) t v, Try.f12.params[j]? = some t → args[j]? = some v → Value.okWide Try.prog W .any base t v := hval0
  have hW' := hW
  obtain ⟨p, q, hA0, hV, rfl, hfz, hnd⟩ := hW
  have hA : DataW.TrodAll enc Try.prog W 0 (fun _ => true) true Try.f12.params.toList args.toList ds p := hA0
  rw [Try.params12] at hA hval
  obtain ⟨v0, vs0, d0, ds0, p0, q0, hargs, rfl, rfl, h0, r0⟩ := trodAll_cons hA
  obtain ⟨v1, vs1, d1, ds1, p1, q1, rfl, rfl, rfl, h1, r1⟩ := trodAll_cons r0
  obtain ⟨rfl, rfl, rfl⟩ := trodAll_nil r1
  obtain rfl : args = #[v0, v1] := by cases args; simp_all
  obtain ⟨rfl, rfl⟩ := trodVars_none hV
  have k0 := h0
  have lt0 : ∀ x ∈ p0, x.block < W.heap.size := by obtain ⟨m, hm⟩ := k0; exact DataW.trod_lt m _ _ _ hm
  obtain ⟨a0, rfl, hd0, hp0, w0⟩ := open_int Try.underlying23 (hval 0 23 v0 rfl rfl) h0
  have k1 := h1
  have lt1 : ∀ x ∈ p1, x.block < W.heap.size := by obtain ⟨m, hm⟩ := k1; exact DataW.trod_lt m _ _ _ hm
  obtain ⟨a1, rfl, hd1, hp1, w1⟩ := open_int Try.underlying23 (hval 1 23 v1 rfl rfl) h1
  refine (walk a0 (bound_u64 w0) a1 (bound_u64 w1) W).mono fun e W' ⟨he, bel⟩ => ?_
  subst he
  exact ⟨_, rfl, _, _, _, [], _, [], hW', trodAll_mk1 (shut_bool Try.underlying4 _), (trodAll_cons_mk (Below.trod laidOut (by kernel_rfl) (of_decide_eq_true (by kernel_rfl)) k0 bel lt0) (trodAll_cons_mk (Below.trod laidOut (by kernel_rfl) (of_decide_eq_true (by kernel_rfl)) k1 bel lt1) trodAll_mk0)), rfl, bel.frame _, fun h => by cases h⟩

theorem over : Rows.fnExactRangeSizeRow.holds Try.pinned (OpenSpec.ofChange Rows.fnExactRangeSizeSpec) :=
  OpenClaim.holds_of_wide 12 Try.f12 rfl rfl rfl rfl rfl rfl rfl ⟨rfl, rfl, rfl, rfl, rfl⟩ rfl rfl rfl rfl rfl (by kernel_rfl) Try.func12 (by kernel_rfl)
    (of_decide_eq_true (by kernel_rfl)) (by unfold Func.isWrapper; first | (rw [if_pos (by decide +kernel)]; kernel_rfl) | (rw [if_neg (by decide +kernel)]; exact ⟨rfl, rfl⟩))
    (fun os started H enc _ => lifted os started H enc)
theorem proved : Rows.FnExactRangeSizeSaid := over
end Go.Proofs.Ytgilgmnibafohaa.fnExactRangeSize
