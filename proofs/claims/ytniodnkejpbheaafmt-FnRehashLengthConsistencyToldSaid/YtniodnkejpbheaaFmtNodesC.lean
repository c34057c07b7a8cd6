/- proof.nodes: its contract; proof.Nodes.skipFirst. -/
import Derived.Test.YtniodnkejpbheaaFmtNodesFn
namespace Go.Proofs.YtniodnkejpbheaaFmt
open Go.ChangeShapes Go.WideShapes Go.ChangeAt Go.RowKit
theorem nodes_c (l i s : Nat) (h : i < s / 2 ^ l) (hs : s < 18446744073709551616) (w : World) (hT : Tab w) :
    Calls Tryf.prog 48 #[.int .u64 i, .int .u64 l, .int .u64 s] w (RetPlanN w (Pl.planL l i s) (Pl.planB l i s) (Pl.planE l i s) (l + Pl.up l i s) (Pl.ephI l i s)) := by
  obtain ⟨u1, u2, u3, u4, u5⟩ := Pl.up_spec h hs
  have hil : i < 18446744073709551616 := Nat.lt_of_lt_of_le h (Nat.le_trans (Nat.div_le_self _ _) (by omega))
  have hq : s / 2 ^ l < 18446744073709551616 := Nat.lt_of_le_of_lt (Nat.div_le_self _ _) hs
  have hxl : i ^^^ (s / 2 ^ l) < 18446744073709551616 := Nat.xor_lt_two_pow (n := 64) hil hq
  have hx0 : i ^^^ (s / 2 ^ l) ≠ 0 := Pl.xor_ne (by omega)
  have hb := Pl.blen_pos hx0
  have hup : bitLen (i ^^^ (s / 2 ^ l)) = Pl.up l i s + 1 := by unfold Pl.up Pl.cut; omega
  have hFl : i / 2 ^ Pl.up l i s < 18446744073709551616 := Nat.lt_of_le_of_lt (Nat.div_le_self _ _) hil
  have hE : Pl.fend l i (Pl.up l i s) < 18446744073709551616 := by omega
  have hp2 := Nat.two_pow_pos (l + Pl.up l i s)
  have hB : Pl.fbeg l i (Pl.up l i s) < 18446744073709551616 := by omega
  have l1 := Pl.pieces_len (Pl.fend l i (Pl.up l i s)) s hs
  have l0 := Pl.pieces_len 0 (Pl.fbeg l i (Pl.up l i s)) hB
  refine nodes_core l i s (s / 2 ^ l) (i ^^^ (s / 2 ^ l)) (Pl.up l i s) (i / 2 ^ Pl.up l i s) (Pl.fbeg l i (Pl.up l i s)) (Pl.fend l i (Pl.up l i s)) (Pl.pieces 0 (Pl.fbeg l i (Pl.up l i s))).length (Pl.pieces (Pl.fend l i (Pl.up l i s)) s).length
    (by simp) (u64_xor_nat i (s / 2 ^ l) hil hq) (Lib.hid fun w => by have := len_c _ hxl w; rwa [hup] at this) (by simp) (by omega) ?_ ?_
    (Lib.hid fun w => size_c 0 _ (Nat.zero_le _) hB w) (Lib.hid fun w => size_c _ _ u4 hs w) (by omega) (by omega) hil _ _
    (Lib.hid ⟨fun base v n xs W a b c d e => rangeNodes_c _ _ u4 hs base v n xs W a b c d e, rfl⟩) (Lib.hid ⟨fun base v n xs W a b c d e => rangeNodes_c _ _ (Nat.zero_le _) hB base v n xs W a b c d e, rfl⟩)
    _ _ _ _ rfl rfl rfl rfl hFl w hT
  · have := wrapN _ hB
    unfold Pl.fbeg at this ⊢
    simpa using this
  · have h1 := wrapN (i / 2 ^ Pl.up l i s + 1) (by
      have : (i / 2 ^ Pl.up l i s + 1) * 1 ≤ (i / 2 ^ Pl.up l i s + 1) * 2 ^ (l + Pl.up l i s) := Nat.mul_le_mul_left _ (Nat.two_pow_pos _)
      unfold Pl.fend at hE
      omega)
    have h2 := wrapN _ hE
    unfold Pl.fend at h2 ⊢
    have e1 : ((i / 2 ^ Pl.up l i s : Nat) : Int) + 1 = ((i / 2 ^ Pl.up l i s + 1 : Nat) : Int) := by simp
    rw [e1, h1]
    simpa using h2
/-- The part's place, one entry nearer. -/
def sk (b x : Nat) : Nat := if b < x then b - 1 else b
def skE (b x : Nat) : Nat := if b < x then x - 1 else x
theorem tail_nodes {w : World} {A : Option Addr} {n cap : Nat} {p : Nat × Nat} {L : List (Nat × Nat)} (h : NodesR w (.slice A n cap) (p :: L)) :
    NodesR w (.slice (if cap = 1 then A else A.map (·.add (1 * 2))) (n - 1) (cap - 1)) L ∧ n = L.length + 1 ∧ n ≤ cap := by
  obtain ⟨A', cap', e, hc, hat⟩ := h
  injection e with e1 e2 e3
  subst e1 e2 e3
  obtain ⟨g, o, rfl, h⟩ := hat (by simp)
  refine ⟨⟨_, _, rfl, by simp at hc ⊢; omega, fun hl => ?_⟩, by simp, hc⟩
  rw [if_neg (by simp at hc; omega)]
  refine ⟨g, o + 2, by simp [add_plain], fun k hk => ?_⟩
  have := h (k + 1) (by simp; omega)
  rw [show o + 2 + k * 2 = o + (k + 1) * 2 by omega]
  simpa using this
/-- What skipFirst gives. -/
def RetSkip (w : World) (base : Nat) (L : List (Nat × Nat)) (b x l i : Nat) (e : Ending) (w' : World) : Prop :=
  ∃ v, e = .returned (.agg #[v, .int .i64 (b : Int), .int .i64 (x : Int), .int .u64 (l : Int), .int .u64 (i : Int)]) ∧ NodesR w' v L ∧ Below w.heap.size w w' ∧ Fresh base v
theorem skip_c (base : Nat) (v : Value) (p : Nat × Nat) (L : List (Nat × Nat)) (b x l i : Nat) (w : World) (hv : NodesR w v (p :: L)) (hb : b ≤ 1000) (hx : x ≤ 1000) (hb0 : b < x → 1 ≤ b) (hf : Fresh base v) :
    Calls Tryf.prog 49 #[.agg #[v, .int .i64 (b : Int), .int .i64 (x : Int), .int .u64 (l : Int), .int .u64 (i : Int)]] w (RetSkip w base L (sk b x) (skE b x) l i) := by
  have hv0 := hv
  obtain ⟨A, cap, rfl, hcap, _⟩ := hv0
  obtain ⟨ht, hn, _⟩ := tail_nodes hv
  clear hn
  have hsl : ∀ W : World, (Instr.slice 54 (.slice A (p :: L).length cap) (some (.int .i64 1)) none none).run Tryf.prog W = .ok (.slice (if cap = 1 then A else A.map (·.add (1 * 2))) ((p :: L).length - 1) (cap - 1)) W := fun W => by
    rw [run_slice_l W 54 _ _ _ (by rw [elemId]; exact Tryf.underlying54) .i64 1 (by omega) (by simp <;> omega), elemId, sizeId]
    rfl
  have HFr : Hid (Fresh base (.slice (if cap = 1 then A else A.map (·.add (1 * 2))) ((p :: L).length - 1) (cap - 1))) := Lib.hid (by
    intro a n c e
    injection e with e
    by_cases hc1 : cap = 1
    · rw [if_pos hc1] at e; exact hf a _ _ (by rw [e])
    · rw [if_neg hc1] at e
      cases A with
      | none => cases e
      | some a0 =>
        have := hf a0 _ _ rfl
        simp only [Option.map_some] at e
        injection e with e
        subst e
        rw [Go.ChangeShapes.block_add]; exact this)
  clear hf
  generalize (if cap = 1 then A else A.map (·.add (1 * 2))) = A2 at ht hsl HFr
  generalize (p :: L).length - 1 = n2 at ht hsl HFr
  generalize (p :: L).length = n1 at hsl hcap hv ⊢
  generalize cap - 1 = c2 at ht hsl HFr
  have HT : Hid (NodesR w (.slice A2 n2 c2) L) := ht
  clear ht hcap hv
  by_cases hbx : b < x
  · have h1 : (b : Int) < (x : Int) := by omega
    have h2 := hb0 hbx
    have e1 : IntKind.i64.wrap ((b : Int) - 1) = (b : Int) - 1 := IntWalk.i64_in _ (by omega)
    have e2 : IntKind.i64.wrap ((x : Int) - 1) = (x : Int) - 1 := IntWalk.i64_in _ (by omega)
    have HS : Hid (((sk b x : Nat) : Int) = (b : Int) - 1 ∧ ((skE b x : Nat) : Int) = (x : Int) - 1) := Lib.hid (by unfold sk skE; rw [if_pos hbx, if_pos hbx]; omega)
    go_enter Tryf.func49, Tryf.ntmps49
    go_wp2
    refine bodyPost_ret (v := .agg #[.slice A2 n2 c2, .int .i64 ((b : Int) - 1), .int .i64 ((x : Int) - 1), .int .u64 (l : Int), .int .u64 (i : Int)]) (by simp [results, Tryf.results49, go_sem]) rfl ⟨.slice A2 n2 c2, by rw [HS.out.1, HS.out.2], ?_, ?_⟩
    · exact HT.out.below (((Below.refl _ _).alloc (Nat.le_refl _) _).alloc (by simp) _)
    · exact ⟨((Below.refl _ _).alloc (Nat.le_refl _) _).alloc (by simp) _, HFr.out⟩
  · have h1 : ¬ (b : Int) < (x : Int) := by omega
    have HS : Hid (((sk b x : Nat) : Int) = (b : Int) ∧ ((skE b x : Nat) : Int) = (x : Int)) := Lib.hid (by unfold sk skE; rw [if_neg hbx, if_neg hbx]; exact ⟨rfl, rfl⟩)
    go_enter Tryf.func49, Tryf.ntmps49
    go_wp2
    refine bodyPost_ret (v := .agg #[.slice A2 n2 c2, .int .i64 (b : Int), .int .i64 (x : Int), .int .u64 (l : Int), .int .u64 (i : Int)]) (by simp [results, Tryf.results49, go_sem]) rfl ⟨.slice A2 n2 c2, by rw [HS.out.1, HS.out.2], ?_, ?_⟩
    · exact HT.out.below (((Below.refl _ _).alloc (Nat.le_refl _) _).alloc (by simp) _)
    · exact ⟨((Below.refl _ _).alloc (Nat.le_refl _) _).alloc (by simp) _, HFr.out⟩
end Go.Proofs.YtniodnkejpbheaaFmt
