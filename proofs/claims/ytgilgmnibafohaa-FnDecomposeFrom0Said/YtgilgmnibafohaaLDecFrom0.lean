/- From 0 on the right mask is the end. -/
import Derived.Test.YtgilgmnibafohaaOpen
import Derived.Test.YtgilgmnibafohaaBits
import Derived.Test.YtgilgmnibafohaaWorks
namespace Go.Proofs.Ytgilgmnibafohaa.fnDecomposeFrom0
open Go.ChangeShapes Go.WideShapes Go.ChangeAt Go.RowKit
theorem walk (a0 : Int) (w0 : 0 ≤ a0 ∧ a0 < 18446744073709551616) (w : World) :
    Calls Try.prog 9 #[.int .u64 a0] w fun e w' => e = .returned (.bool true) ∧ Below w.heap.size w w' := by
  obtain ⟨e, rfl⟩ := Int.eq_ofNat_of_zero_le w0.1
  clear w0
  go_enter Try.func9, Try.ntmps9
  go_wp2_with (first | (go_at_call 17; refine (implDec (dec_zero _)).mono ?_; rintro e w' ⟨rfl, rfl⟩) | (go_at_call 18; refine (works_c _).mono ?_; rintro e w' ⟨rfl, hb⟩))
  go_ret
  exact ⟨rfl, by assumption⟩
set_option maxRecDepth 100000 in
theorem lifted (os : Os) (started : os.Started) (H : Type) (enc : TypeId × Value → H) :
    ReturnsInHanded {} Try.checked os 9 .any (Rows.fnDecomposeFrom0Spec.pre6 enc Try.prog Try.f9 Rows.fnDecomposeFrom0Row.domain false) (Rows.fnDecomposeFrom0Spec.post enc Try.prog Try.f9 false true false false) := by
  refine returnsInHanded_of_change (C := Try.checked) own started (by kernel_rfl) Try.func9
    (ChangeSpec.witness6 (enc := enc) (C := Try.checked) false ⟨#[], #[.int .u64 0], []⟩ 8 (by kernel_rfl) (by kernel_rfl) (by kernel_rfl) (by kernel_rfl)) ?_
  intro W base args ds gs before hval0 hW hcnd _
  have hval : ∀ (j : Nat) t v, Try.f9.params[j]? = some t → args[j]? = some v → Value.okWide Try.prog W .any base t v := hval0
  have hW' := hW
  obtain ⟨p, q, hA0, hV, rfl, hfz, hnd⟩ := hW
  have hA : DataW.TrodAll enc Try.prog W 0 (fun _ => true) true Try.f9.params.toList args.toList ds p := hA0
  rw [Try.params9] at hA hval
  obtain ⟨v0, vs0, d0, ds0, p0, q0, hargs, rfl, rfl, h0, r0⟩ := trodAll_cons hA
  obtain ⟨rfl, rfl, rfl⟩ := trodAll_nil r0
  obtain rfl : args = #[v0] := by cases args; simp_all
  obtain ⟨rfl, rfl⟩ := trodVars_none hV
  have k0 := h0
  have lt0 : ∀ x ∈ p0, x.block < W.heap.size := by obtain ⟨m, hm⟩ := k0; exact DataW.trod_lt m _ _ _ hm
  obtain ⟨a0, rfl, hd0, hp0, w0⟩ := open_int Try.underlying23 (hval 0 23 v0 rfl rfl) h0
  refine (walk a0 (bound_u64 w0) W).mono fun e W' ⟨he, bel⟩ => ?_
  subst he
  exact ⟨_, rfl, _, _, _, [], _, [], hW', trodAll_mk1 (shut_bool Try.underlying4 _), (trodAll_cons_mk (Below.trod laidOut (by kernel_rfl) (of_decide_eq_true (by kernel_rfl)) k0 bel lt0) trodAll_mk0), rfl, bel.frame _, fun h => by cases h⟩

theorem over : Rows.fnDecomposeFrom0Row.holds Try.pinned (OpenSpec.ofChange Rows.fnDecomposeFrom0Spec) :=
  OpenClaim.holds_of_wide 9 Try.f9 rfl rfl rfl rfl rfl rfl rfl ⟨rfl, rfl, rfl, rfl, rfl⟩ rfl rfl rfl rfl rfl (by kernel_rfl) Try.func9 (by kernel_rfl)
    (of_decide_eq_true (by kernel_rfl)) (by unfold Func.isWrapper; first | (rw [if_pos (by decide +kernel)]; kernel_rfl) | (rw [if_neg (by decide +kernel)]; exact ⟨rfl, rfl⟩))
    (fun os started H enc _ => lifted os started H enc)
theorem proved : Rows.FnDecomposeFrom0Said := over
end Go.Proofs.Ytgilgmnibafohaa.fnDecomposeFrom0
