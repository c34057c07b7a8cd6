/- The sibling is on the same level, one behind an even index, and one ahead of an odd one. -/
import Derived.Test.YtgilgmnibafohaaOpen
import Derived.Test.YtgilgmnibafohaaNode
import Derived.Test.YtgilgmnibafohaaPlain
import Derived.Deep.RegionHeld3
namespace Go.Proofs.Ytgilgmnibafohaa.fnExactSibling
open Go.ChangeShapes Go.WideShapes Go.ChangeAt Go.RowKit
set_option maxHeartbeats 800000 in
theorem walk (a b : Int) (w0 : 0 ≤ a ∧ a < 18446744073709551616 ∧ 0 ≤ b ∧ b < 18446744073709551616) (w : World) :
    Calls Try.prog 6 #[.agg #[.int .u64 a, .int .u64 b]] w fun e w' => e = .returned (.bool true) ∧ Below w.heap.size w w' := by
  obtain ⟨_, _, h2, h3⟩ := w0
  have hq1 : b.tmod 2 = b % 2 := Int.tmod_eq_emod_of_nonneg h2
  have hx := Pl.xorOne b h2 h3
  by_cases h1 : b % 2 = 1
  · have hx1 : bits .xor .u64 b 1 = IntKind.u64.wrap (b - 1) := by rw [hx, if_pos h1, IntKind.wrap_u64]; omega
    have hb1 : (b % 2 == 1) = true := by simp [h1]
    clear hx h1
    go_enter Try.func6, Try.ntmps6
    go_wp2
    go_region_held3 (fun w' => w'.cell? ⟨w.heap.size, 0, none⟩ = some (.int .u64 a) ∧ w'.cell? ⟨w.heap.size, 1, none⟩ = some (.int .u64 b) ∧ w'.cell? ⟨w.heap.size + 1, 0, none⟩ = some (.int .u64 a) ∧ w'.cell? ⟨w.heap.size + 1, 1, none⟩ = some (.int .u64 (IntKind.u64.wrap (b - 1))) ∧ Below w.heap.size w w')
      (first | exact ⟨by simp [go_sem], by simp [go_sem], by simp [go_sem], by simp [go_sem], (((Below.refl _ _).alloc (Nat.le_refl _) _).alloc (by simp) _).drew⟩ | exact ⟨(hc _ _ (by simp <;> omega)).trans (by simp [go_sem]), (hc _ _ (by simp <;> omega)).trans (by simp [go_sem]), (hc _ _ (by simp)).trans (by simp [go_sem]), (hc _ _ (by simp)).trans (by simp [go_sem]), ((((Below.refl _ _).alloc (Nat.le_refl _) _).alloc (by simp) _).drew).trans (hb.mono (by simp <;> omega))⟩)
      (first | (go_at_call 16; refine (implSibling _ _ _).mono ?_; rintro e w' ⟨rfl, hb⟩; obtain ⟨hc, hf, hz⟩ := bcell hb))
    obtain ⟨_, _, _, _, hB⟩ : w'.cell? ⟨w.heap.size, 0, none⟩ = some (.int .u64 a) ∧ w'.cell? ⟨w.heap.size, 1, none⟩ = some (.int .u64 b) ∧ w'.cell? ⟨w.heap.size + 1, 0, none⟩ = some (.int .u64 a) ∧ w'.cell? ⟨w.heap.size + 1, 1, none⟩ = some (.int .u64 (IntKind.u64.wrap (b - 1))) ∧ Below w.heap.size w w' := by assumption
    clear hc hf hz hb
    go_wp2
    go_ret
    exact ⟨rfl, hB⟩
  · have hx1 : bits .xor .u64 b 1 = IntKind.u64.wrap (b + 1) := by rw [hx, if_neg h1, IntKind.wrap_u64]; omega
    have hb1 : (b % 2 == 1) = false := by simp [h1]
    clear hx h1
    go_enter Try.func6, Try.ntmps6
    go_wp2
    go_region_held3 (fun w' => w'.cell? ⟨w.heap.size, 0, none⟩ = some (.int .u64 a) ∧ w'.cell? ⟨w.heap.size, 1, none⟩ = some (.int .u64 b) ∧ w'.cell? ⟨w.heap.size + 1, 0, none⟩ = some (.int .u64 a) ∧ w'.cell? ⟨w.heap.size + 1, 1, none⟩ = some (.int .u64 (IntKind.u64.wrap (b + 1))) ∧ Below w.heap.size w w')
      (first | exact ⟨by simp [go_sem], by simp [go_sem], by simp [go_sem], by simp [go_sem], (((Below.refl _ _).alloc (Nat.le_refl _) _).alloc (by simp) _).drew⟩ | exact ⟨(hc _ _ (by simp <;> omega)).trans (by simp [go_sem]), (hc _ _ (by simp <;> omega)).trans (by simp [go_sem]), (hc _ _ (by simp)).trans (by simp [go_sem]), (hc _ _ (by simp)).trans (by simp [go_sem]), ((((Below.refl _ _).alloc (Nat.le_refl _) _).alloc (by simp) _).drew).trans (hb.mono (by simp <;> omega))⟩)
      (first | (go_at_call 16; refine (implSibling _ _ _).mono ?_; rintro e w' ⟨rfl, hb⟩; obtain ⟨hc, hf, hz⟩ := bcell hb))
    obtain ⟨_, _, _, _, hB⟩ : w'.cell? ⟨w.heap.size, 0, none⟩ = some (.int .u64 a) ∧ w'.cell? ⟨w.heap.size, 1, none⟩ = some (.int .u64 b) ∧ w'.cell? ⟨w.heap.size + 1, 0, none⟩ = some (.int .u64 a) ∧ w'.cell? ⟨w.heap.size + 1, 1, none⟩ = some (.int .u64 (IntKind.u64.wrap (b + 1))) ∧ Below w.heap.size w w' := by assumption
    clear hc hf hz hb
    go_wp2
    go_ret
    exact ⟨rfl, hB⟩
set_option maxRecDepth 100000 in
theorem lifted (os : Os) (started : os.Started) (H : Type) (enc : TypeId × Value → H) :
    ReturnsInHanded {} Try.checked os 6 .any (Rows.fnExactSiblingSpec.pre6 enc Try.prog Try.f6 Rows.fnExactSiblingRow.domain false) (Rows.fnExactSiblingSpec.post enc Try.prog Try.f6 false true false false) := by
  refine returnsInHanded_of_change (C := Try.checked) own started (by kernel_rfl) Try.func6
    (ChangeSpec.witness6 (enc := enc) (C := Try.checked) false ⟨#[], #[.agg #[.int .u64 0, .int .u64 0]], []⟩ 8 (by kernel_rfl) (by kernel_rfl) (by kernel_rfl) (by kernel_rfl)) ?_
  intro W base args ds gs before hval0 hW hcnd _
  have hval : ∀ (j : Nat) t v, Try.f6.params[j]? = some t → args[j]? = some v → Value.okWide Try.prog W .any base t v := hval0
  have hW' := hW
  obtain ⟨p, q, hA0, hV, rfl, hfz, hnd⟩ := hW
  have hA : DataW.TrodAll enc Try.prog W 0 (fun _ => true) true Try.f6.params.toList args.toList ds p := hA0
  rw [Try.params6] at hA hval
  obtain ⟨v0, vs0, d0, ds0, p0, q0, hargs, rfl, rfl, h0, r0⟩ := trodAll_cons hA
  obtain ⟨rfl, rfl, rfl⟩ := trodAll_nil r0
  obtain rfl : args = #[v0] := by cases args; simp_all
  obtain ⟨rfl, rfl⟩ := trodVars_none hV
  have k0 := h0
  have lt0 : ∀ x ∈ p0, x.block < W.heap.size := by obtain ⟨m, hm⟩ := k0; exact DataW.trod_lt m _ _ _ hm
  obtain ⟨a0, b0, rfl, w0⟩ := openNode (hval 0 25 v0 rfl rfl) h0
  refine (walk a0 b0 w0 W).mono fun e W' ⟨he, bel⟩ => ?_
  subst he
  exact ⟨_, rfl, _, _, _, [], _, [], hW', trodAll_mk1 (shut_bool Try.underlying4 _), (trodAll_cons_mk (Below.trod laidOut (by kernel_rfl) (of_decide_eq_true (by kernel_rfl)) k0 bel lt0) trodAll_mk0), rfl, bel.frame _, fun h => by cases h⟩

theorem over : Rows.fnExactSiblingRow.holds Try.pinned (OpenSpec.ofChange Rows.fnExactSiblingSpec) :=
  OpenClaim.holds_of_wide 6 Try.f6 rfl rfl rfl rfl rfl rfl rfl ⟨rfl, rfl, rfl, rfl, rfl⟩ rfl rfl rfl rfl rfl (by kernel_rfl) Try.func6 (by kernel_rfl)
    (of_decide_eq_true (by kernel_rfl)) (by unfold Func.isWrapper; first | (rw [if_pos (by decide +kernel)]; kernel_rfl) | (rw [if_neg (by decide +kernel)]; exact ⟨rfl, rfl⟩))
    (fun os started H enc _ => lifted os started H enc)
theorem proved : Rows.FnExactSiblingSaid := over
end Go.Proofs.Ytgilgmnibafohaa.fnExactSibling
