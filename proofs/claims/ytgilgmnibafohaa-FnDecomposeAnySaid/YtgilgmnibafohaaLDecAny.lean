/- Decompose returns, whatever it is asked for. -/
import Derived.Test.YtgilgmnibafohaaOpen
import Derived.Test.YtgilgmnibafohaaBits
import Derived.Test.YtgilgmnibafohaaWorks
namespace Go.Proofs.Ytgilgmnibafohaa.fnDecomposeAny
open Go.ChangeShapes Go.WideShapes Go.ChangeAt Go.RowKit
theorem walk (a0 : Int) (w0 : 0 ≤ a0 ∧ a0 < 18446744073709551616) (a1 : Int) (w1 : 0 ≤ a1 ∧ a1 < 18446744073709551616) (w : World) :
    Calls Try.prog 8 #[.int .u64 a0, .int .u64 a1] w fun e w' => e = .returned (.bool true) ∧ Below w.heap.size w w' := by
  obtain ⟨b, rfl⟩ := Int.eq_ofNat_of_zero_le w0.1
  obtain ⟨e, rfl⟩ := Int.eq_ofNat_of_zero_le w1.1
  have hb : b < 18446744073709551616 := by omega
  have he : e < 18446744073709551616 := by omega
  obtain ⟨l, r, h⟩ := dec_any b e hb he
  have H : Hid (∀ w : World, Calls Try.prog 25 #[.int .u64 b, .int .u64 e] w fun q w' => q = .returned (.tuple #[.int .u64 l, .int .u64 r]) ∧ w = w') := h
  clear h w0 w1 hb he
  go_enter Try.func8, Try.ntmps8
  go_wp2_with (first | (go_at_call 17; refine (implDec H.out).mono ?_; rintro e w' ⟨rfl, rfl⟩) | (go_at_call 18; refine (works_c _).mono ?_; rintro e w' ⟨rfl, hb⟩))
  go_ret
  exact ⟨rfl, by assumption⟩
set_option maxRecDepth 100000 in
theorem lifted (os : Os) (started : os.Started) (H : Type) (enc : TypeId × Value → H) :
    ReturnsInHanded {} Try.checked os 8 .any (Rows.fnDecomposeAnySpec.pre6 enc Try.prog Try.f8 Rows.fnDecomposeAnyRow.domain false) (Rows.fnDecomposeAnySpec.post enc Try.prog Try.f8 false true false false) := by
  refine returnsInHanded_of_change (C := Try.checked) own started (by kernel_rfl) Try.func8
    (ChangeSpec.witness6 (enc := enc) (C := Try.checked) false ⟨#[], #[.int .u64 0, .int .u64 0], []⟩ 8 (by kernel_rfl) (by kernel_rfl) (by kernel_rfl) (by kernel_rfl)) ?_
  intro W base args ds gs before hval0 hW hcnd _
  have hval : ∀ (j : Nat) t v, Try.f8.params[j]? = some t → args[j]? = some v → Value.okWide Try.prog W .any base t v := hval0
  have hW' := hW
  obtain ⟨p, q, hA0, hV, rfl, hfz, hnd⟩ := hW
  have hA : DataW.TrodAll enc Try.prog W 0 (fun _ => true) true Try.f8.params.toList args.toList ds p := hA0
  rw [Try.params8] at hA hval
  obtain ⟨v0, vs0, d0, ds0, p0, q0, hargs, rfl, rfl, h0, r0⟩ := trodAll_cons hA
  obtain ⟨v1, vs1, d1, ds1, p1, q1, rfl, rfl, rfl, h1, r1⟩ := trodAll_cons r0
  obtain ⟨rfl, rfl, rfl⟩ := trodAll_nil r1
  obtain rfl : args = #[v0, v1] := by cases args; simp_all
  obtain ⟨rfl, rfl⟩ := trodVars_none hV
  have k0 := h0
  have lt0 : ∀ x ∈ p0, x.block < W.heap.size := by obtain ⟨m, hm⟩ := k0; exact DataW.trod_lt m _ _ _ hm
  obtain ⟨a0, rfl, hd0, hp0, w0⟩ := open_int Try.underlying23 (hval 0 23 v0 rfl rfl) h0
  have k1 := h1
  have lt1 : ∀ x ∈ p1, x.block < W.heap.size := by obtain ⟨m, hm⟩ := k1; exact DataW.trod_lt m _ _ _ hm
  obtain ⟨a1, rfl, hd1, hp1, w1⟩ := open_int Try.underlying23 (hval 1 23 v1 rfl rfl) h1
  refine (walk a0 (bound_u64 w0) a1 (bound_u64 w1) W).mono fun e W' ⟨he, bel⟩ => ?_
  subst he
  exact ⟨_, rfl, _, _, _, [], _, [], hW', trodAll_mk1 (shut_bool Try.underlying4 _), (trodAll_cons_mk (Below.trod laidOut (by kernel_rfl) (of_decide_eq_true (by kernel_rfl)) k0 bel lt0) (trodAll_cons_mk (Below.trod laidOut (by kernel_rfl) (of_decide_eq_true (by kernel_rfl)) k1 bel lt1) trodAll_mk0)), rfl, bel.frame _, fun h => by cases h⟩

theorem over : Rows.fnDecomposeAnyRow.holds Try.pinned (OpenSpec.ofChange Rows.fnDecomposeAnySpec) :=
  OpenClaim.holds_of_wide 8 Try.f8 rfl rfl rfl rfl rfl rfl rfl ⟨rfl, rfl, rfl, rfl, rfl⟩ rfl rfl rfl rfl rfl (by kernel_rfl) Try.func8 (by kernel_rfl)
    (of_decide_eq_true (by kernel_rfl)) (by unfold Func.isWrapper; first | (rw [if_pos (by decide +kernel)]; kernel_rfl) | (rw [if_neg (by decide +kernel)]; exact ⟨rfl, rfl⟩))
    (fun os started H enc _ => lifted os started H enc)
theorem proved : Rows.FnDecomposeAnySaid := over
end Go.Proofs.Ytgilgmnibafohaa.fnDecomposeAny
