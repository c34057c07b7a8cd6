/- The check 'ephemeral' at a plan. -/
import Derived.Test.YtniodnkejpbheaaFmtEphem
import Derived.Test.YtniodnkejpbheaaFmtParts
import Derived.Test.YtniodnkejpbheaaFmtNodesC
namespace Go.Proofs.YtniodnkejpbheaaFmt
open Go.ChangeShapes Go.WideShapes Go.ChangeAt Go.RowKit
namespace Pl
theorem pieces_once (e : Nat) (he : e < 18446744073709551616) : ∀ (n b : Nat), e - b = n → ∀ p ∈ pieces b e, (pieces b e).count p = 1 := by
  intro n
  induction n using Nat.strongRecOn with
  | ind n ih =>
    intro b hb p hp
    rcases Nat.lt_or_ge b e with h | h
    · obtain ⟨l, hl, _, hst, hdv, hle⟩ := pieces_step h he
      have hp2 := Nat.two_pow_pos l
      have hrest := pieces_in e he _ (b + 2 ^ l) rfl
      have hhead : (l, b / 2 ^ l) ∉ pieces (b + 2 ^ l) e := fun hm => by
        have := (hrest _ hm).1
        unfold nb at this
        simp only [hdv] at this
        omega
      rw [hst] at hp ⊢
      rw [List.mem_cons] at hp
      by_cases e1 : p = (l, b / 2 ^ l)
      · subst e1
        rw [List.count_cons_self, List.count_eq_zero.2 hhead]
      · rw [List.count_cons_of_ne (Ne.symm e1)]
        exact ih (e - (b + 2 ^ l)) (by omega) (b + 2 ^ l) rfl p (hp.resolve_left e1)
    · rw [pieces_nil h] at hp; cases hp
end Pl
theorem sk_plan (l i s : Nat) : sk (Pl.planB l i s) (Pl.planE l i s) = (if (Pl.pieces (Pl.fend l i (Pl.up l i s)) s).length = 0 then 0 else Pl.up l i s) ∧
    skE (Pl.planB l i s) (Pl.planE l i s) = (if (Pl.pieces (Pl.fend l i (Pl.up l i s)) s).length = 0 then 0 else Pl.up l i s + (Pl.pieces (Pl.fend l i (Pl.up l i s)) s).length) := by
  unfold sk skE Pl.planB Pl.planE
  by_cases h0 : (Pl.pieces (Pl.fend l i (Pl.up l i s)) s).length = 0
  · simp [h0]
  · rw [if_neg h0, if_neg h0, if_neg h0, if_neg h0, if_pos (by omega), if_pos (by omega)]
    exact ⟨by omega, by omega⟩
theorem ephem_any (l i s : Nat) (h : i < s / 2 ^ l) (hs2 : s ≤ 1152921504606846976) (X L : List (Nat × Nat)) (b x many : Nat) (hX : X.length ≤ 100)
    (hL : L = X ++ (Pl.pieces (Pl.fend l i (Pl.up l i s)) s).reverse ++ (Pl.pieces 0 (Pl.fbeg l i (Pl.up l i s))).reverse)
    (hb : b = if (Pl.pieces (Pl.fend l i (Pl.up l i s)) s).length = 0 then 0 else X.length)
    (hx : x = if (Pl.pieces (Pl.fend l i (Pl.up l i s)) s).length = 0 then 0 else X.length + (Pl.pieces (Pl.fend l i (Pl.up l i s)) s).length)
    (hm : many = X.length + (Pl.mid l i s).length + (Pl.pieces 0 (Pl.fbeg l i (Pl.up l i s))).length)
    (v : Value) (w : World) (hv : NodesR w v L) :
    Calls Tryf.prog 16 #[.agg #[v, .int .u64 ((l + Pl.up l i s : Nat) : Int), .int .u64 (Pl.ephI l i s : Int), .int .i64 (b : Int), .int .i64 (x : Int)], .int .u64 (s : Int), .int .i64 (many : Int)] w fun e w' => e = .returned (.bool true) ∧ Below w.heap.size w w' := by
  have hs : s < 18446744073709551616 := by omega
  obtain ⟨u1, u2, u3, u4, u5⟩ := Pl.up_spec h hs
  rw [Pl.mid_len hs] at hm
  have hp2 := Nat.two_pow_pos (l + Pl.up l i s)
  have l1 := Pl.pieces_len (Pl.fend l i (Pl.up l i s)) s hs
  have l0 := Pl.pieces_len 0 (Pl.fbeg l i (Pl.up l i s)) (by omega)
  have hLl : L.length = X.length + (Pl.pieces (Pl.fend l i (Pl.up l i s)) s).length + (Pl.pieces 0 (Pl.fbeg l i (Pl.up l i s))).length := by rw [hL]; simp; omega
  by_cases h0 : (Pl.pieces (Pl.fend l i (Pl.up l i s)) s).length = 0
  · rw [if_pos h0] at hb hx hm
    subst hb hx
    have e : many = L.length := by omega
    rw [e]
    exact ephem_same v L _ _ s 0 w hv
  · rw [if_neg h0] at hb hx hm
    have hfs : Pl.fend l i (Pl.up l i s) < s := by
      rcases Nat.lt_or_ge (Pl.fend l i (Pl.up l i s)) s with h | h
      · exact h
      · exact absurd ((Pl.pieces_empty hs).2 h) h0
    have hel : l + Pl.up l i s ≤ 62 := by
      rcases Nat.lt_or_ge (l + Pl.up l i s) 63 with h | h
      · omega
      · have h2 : 2 ^ 63 ≤ 2 ^ (l + Pl.up l i s) := Nat.pow_le_pow_right (by decide) h
        omega
    have hei : Pl.ephI l i s = i / 2 ^ Pl.up l i s + 1 := by
      unfold Pl.ephI
      rw [Pl.xor1, if_neg (by omega)]
    have hlt : s < Pl.fend l i (Pl.up l i s) + 2 ^ (l + Pl.up l i s) := by
      have e1 : s / 2 ^ (l + Pl.up l i s) = i / 2 ^ Pl.up l i s + 1 := by rw [Nat.pow_add, ← Nat.div_div_eq_div_mul]; exact u3
      have := Nat.lt_mul_of_div_lt (a := s) (b := i / 2 ^ Pl.up l i s + 1 + 1) (c := 2 ^ (l + Pl.up l i s)) (by omega) hp2
      unfold Pl.fend
      rw [Nat.add_mul (i / 2 ^ Pl.up l i s + 1) 1, Nat.one_mul] at this
      exact this
    have hf : IntKind.u64.wrap ((Pl.ephI l i s : Int) * 2 ^ (l + Pl.up l i s)) = (Pl.fend l i (Pl.up l i s) : Int) := by
      rw [hei]
      have := wrapN (Pl.fend l i (Pl.up l i s)) (by omega)
      unfold Pl.fend at this ⊢
      simpa using this
    refine ephemeral_c v L (Pl.pieces (Pl.fend l i (Pl.up l i s)) s) (l + Pl.up l i s) (Pl.ephI l i s) s b x (Pl.fend l i (Pl.up l i s)) many w hv (by omega) (by omega) (by omega) (by omega) hel hf hfs hs (by omega)
      (Lib.hid fun w => pieces_c _ _ (by omega) hs w) (by omega) ?_ (fun p hp => by rw [List.count_reverse]; exact Pl.pieces_once s hs _ _ rfl p hp)
    rw [hL, hb, hx, Nat.add_sub_cancel_left, List.append_assoc, List.drop_left, ← List.length_reverse, List.take_left]
end Go.Proofs.YtniodnkejpbheaaFmt
