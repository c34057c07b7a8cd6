/- Bytes as they lie in memory; the hash function. -/
import Derived.Test.YtpdmmmcelkinjaaFmtBits
import Derived.Test.YtpdmmmcelkinjaaFmtPlain
import Derived.WalkKit
import Derived.Outline
import Derived.Deep.AppendLies
import Derived.Deep.Onto
import Derived.Deep.RegionHeld3
namespace Go.Proofs.YtpdmmmcelkinjaaFmt
open Go.ChangeShapes Go.WideShapes Go.ChangeAt Go.RowKit

/-- A slice in which these bytes lie. -/
def BytesR (w : World) (v : Value) (l : List Nat) : Prop :=
  ∃ A cap, v = .slice A l.length cap ∧ l.length ≤ cap ∧ Pl.Bytes l ∧ (0 < l.length → ∃ g o, A = some ⟨g, o, none⟩ ∧ ∀ k (h : k < l.length), w.cell? ⟨g, o + k, none⟩ = some (.int .u8 (l[k] : Nat)))
theorem BytesR.bytes {w : World} {v : Value} {l : List Nat} (h : BytesR w v l) : Pl.Bytes l := by obtain ⟨_, _, _, _, h, _⟩ := h; exact h
theorem BytesR.below {w w' : World} {v : Value} {l : List Nat} (h : BytesR w v l) (hb : Below w.heap.size w w') : BytesR w' v l := by
  obtain ⟨A, cap, rfl, hc, hy, h⟩ := h
  refine ⟨A, cap, rfl, hc, hy, fun hl => ?_⟩
  obtain ⟨g, o, rfl, h'⟩ := h hl
  exact ⟨g, o, rfl, fun k hk => (hb.cell (World.block_lt_of_cell? w _ (h' k hk))).trans (h' k hk)⟩

set_option maxRecDepth 20000 in
theorem number_c (v : Value) (l : List Nat) (w : World) (hv : BytesR w v l) : Calls Tryf.prog 40 #[v] w fun e w' => e = .returned (.int .u64 (Pl.num l : Nat)) ∧ w = w' := by
  obtain ⟨A, cap, rfl, hcap, hy, hat⟩ := hv
  have HY : Hid (Pl.Bytes l) := hy
  clear hy
  go_enter Tryf.func40, Tryf.ntmps40
  go_wp2_with fail
  go_loop [3, 4] (fun nv kv => ∃ k : Nat, k ≤ 2 ∧ k ≤ l.length ∧ nv = .int .u64 (Pl.num (l.take k) : Nat) ∧ kv = .int .i64 k) (fun _ kv => 2 - (intOf kv).toNat)
  case atStart => exact ⟨0, by omega, Nat.zero_le _, rfl, rfl⟩
  case round =>
    obtain ⟨k, hk2, hk, rfl, rfl⟩ := hrel
    by_cases hlt : k < 2 ∧ k < l.length
    · obtain ⟨h2, hkl⟩ := hlt
      obtain ⟨g, o, rfl, hc⟩ := hat (by omega)
      have c1 := hc k hkl
      have hn := Pl.num_lt (Pl.take_bytes HY.out k)
      have hx := HY.out l[k] (List.getElem_mem hkl)
      have HS : Hid (Pl.num (l.take (k + 1)) = Pl.num (l.take k) * 256 + l[k]) := Pl.num_step l k h2 hkl
      clear hc hat
      generalize Pl.num (l.take k) = n at hn HS ⊢
      generalize l[k] = x at c1 hx HS
      have e1 : IntKind.u64.wrap ((n : Int) * 256) = (n : Int) * 256 := by rw [IntKind.wrap_u64]; omega
      have e2 : IntKind.u64.wrap (x : Int) = (x : Int) := wrapN x (by omega)
      have e3 : IntKind.u64.wrap ((n : Int) * 256 + (x : Int)) = (n : Int) * 256 + (x : Int) := by rw [IntKind.wrap_u64]; omega
      have hk1 : (k : Int) < (l.length : Int) := by omega
      go_wp2_with fail
      go_round
      case rel => exact ⟨k + 1, by omega, by omega, by rw [HS.out]; go_num, by go_num⟩
      case measure => simp [intOf] <;> omega
    · have HE : Hid (Pl.num (l.take k) = Pl.num l) := Pl.num_end l k hk hlt
      have hk1 : ¬ ((k : Int) < 2 ∧ (k : Int) < (l.length : Int)) := by omega
      rcases Nat.lt_or_ge k 2 with h2 | h2
      · have hk3 : ¬ (k : Int) < (l.length : Int) := by omega
        have hk4 : (k : Int) < 2 := by omega
        clear hlt hk1
        go_wp2_with fail
        go_ret
        exact ⟨by rw [← HE.out]; rfl, rfl⟩
      · have hk4 : ¬ (k : Int) < 2 := by omega
        clear hlt hk1
        go_wp2_with fail
        go_ret
        exact ⟨by rw [← HE.out]; rfl, rfl⟩
/-- A slice that lies in no block below this one. -/
def NewV (B : Nat) (v : Value) : Prop := ∀ A n c, v = .slice (some A) n c → B ≤ A.block
theorem NewV.mono {B C : Nat} {v : Value} (h : NewV B v) (hc : C ≤ B) : NewV C v := fun A n c e => Nat.le_trans hc (h A n c e)
theorem two_c (n : Nat) (hn : n < 18446744073709551616) (w : World) : Calls Tryf.prog 39 #[.int .u64 n] w fun e w' => ∃ v, e = .returned v ∧ BytesR w' v (Pl.two n) ∧ Below w.heap.size w w' ∧ NewV w.heap.size v := by
  go_enter Tryf.func39, Tryf.ntmps39
  go_wp2_with fail
  go_ret
  refine ⟨_, rfl, ⟨_, 2, rfl, Nat.le_refl _, Pl.two_bytes n, fun _ => ⟨_, 0, rfl, fun k hk => ?_⟩⟩, (Below.refl _ _).alloc (Nat.le_refl _) _, fun A n c e => by injection e with e; injection e with e; subst e; exact Nat.le_refl _⟩
  have hk2 : k = 0 ∨ k = 1 := by have : k < 2 := hk; omega
  rcases hk2 with rfl | rfl <;> simp [Pl.two]
/-- What a call that makes bytes gives. -/
def RetBytes (w : World) (l : List Nat) (e : Ending) (w' : World) : Prop := ∃ v, e = .returned v ∧ BytesR w' v l ∧ Below w.heap.size w w'
/-- The same, and the bytes are new. -/
def RetBytesN (w : World) (l : List Nat) (e : Ending) (w' : World) : Prop := ∃ v, e = .returned v ∧ BytesR w' v l ∧ Below w.heap.size w w' ∧ NewV w.heap.size v
/-- The hash function as a value. -/
def hashV (h : Pl.HF) : Value := .agg #[.int .u32 (h.A : Nat), .int .u32 (h.B : Nat), .int .u32 (h.C : Nat)]
theorem keepCh {w W w' : World} {g0 : Nat} {x1 x2 x3 v1 v2 : Value} {l r : List Nat} (hb : Below W.heap.size W w') (h : W.cell? ⟨g0, 0, none⟩ = some x1 ∧ W.cell? ⟨g0, 1, none⟩ = some x2 ∧ W.cell? ⟨g0, 2, none⟩ = some x3 ∧ BytesR W v1 l ∧ BytesR W v2 r ∧ Below g0 w W) :
    w'.cell? ⟨g0, 0, none⟩ = some x1 ∧ w'.cell? ⟨g0, 1, none⟩ = some x2 ∧ w'.cell? ⟨g0, 2, none⟩ = some x3 ∧ BytesR w' v1 l ∧ BytesR w' v2 r ∧ Below g0 w w' :=
  have up : ∀ {p : Addr} {v : Value}, W.cell? p = some v → w'.cell? p = some v := fun {p} {_} h => (hb.cell (World.block_lt_of_cell? W p h)).trans h
  ⟨up h.1, up h.2.1, up h.2.2.1, h.2.2.2.1.below hb, h.2.2.2.2.1.below hb, h.2.2.2.2.2.trans (hb.mono (Nat.le_of_lt (World.block_lt_of_cell? W _ h.1)))⟩
set_option maxRecDepth 20000 in
theorem children_n (h : Pl.HF) (ok : h.ok) (v1 v2 : Value) (l r : List Nat) (w : World) (hl : BytesR w v1 l) (hr : BytesR w v2 r) :
    Calls Tryf.prog 27 #[hashV h, v1, v2] w (RetBytesN w (h.hc l r)) := by
  have hlt := Pl.hc_lt ok hl.bytes hr.bytes
  have hn1 := Pl.num_lt hl.bytes
  have hn2 := Pl.num_lt hr.bytes
  obtain ⟨A, B, C⟩ := h
  obtain ⟨ha, hb, hc⟩ := ok
  unfold Pl.HF.hc hashV
  simp only [] at hlt ha hb hc ⊢
  have HL : Hid (BytesR w v1 l) := hl
  have HR : Hid (BytesR w v2 r) := hr
  clear hl hr
  obtain ⟨m1, m2, _⟩ := hlt
  have e1 : IntKind.u64.wrap (A : Int) = (A : Int) := wrapN A (by omega)
  have e2 : IntKind.u64.wrap (B : Int) = (B : Int) := wrapN B (by omega)
  have e3 : IntKind.u64.wrap (C : Int) = (C : Int) := wrapN C (by omega)
  have e4 : IntKind.u64.wrap ((A : Int) * (Pl.num l : Int)) = ((A * Pl.num l : Nat) : Int) := by have := wrapN (A * Pl.num l) (by omega); simpa using this
  have e5 : IntKind.u64.wrap ((B : Int) * (Pl.num r : Int)) = ((B * Pl.num r : Nat) : Int) := by have := wrapN (B * Pl.num r) (by omega); simpa using this
  have e6 : IntKind.u64.wrap (((A * Pl.num l : Nat) : Int) + ((B * Pl.num r : Nat) : Int)) = ((A * Pl.num l + B * Pl.num r : Nat) : Int) := by have := wrapN (A * Pl.num l + B * Pl.num r) (by omega); simpa using this
  have e7 : IntKind.u64.wrap (((A * Pl.num l + B * Pl.num r : Nat) : Int) + (C : Int)) = ((A * Pl.num l + B * Pl.num r + C : Nat) : Int) := by have := wrapN (A * Pl.num l + B * Pl.num r + C) (by omega); simpa using this
  have hlast : A * Pl.num l + B * Pl.num r + C < 18446744073709551616 := by omega
  generalize A * Pl.num l + B * Pl.num r + C = q at e7 hlast ⊢
  generalize A * Pl.num l + B * Pl.num r = q2 at e6 e7
  generalize A * Pl.num l = q3 at e4 e6
  generalize B * Pl.num r = q4 at e5 e6
  clear m1 m2 ha hb hc
  go_enter Tryf.func27, Tryf.ntmps27
  go_wp2_with fail
  have b1 : BytesR (w.alloc (.cells #[.int .u32 (A : Int), .int .u32 (B : Int), .int .u32 (C : Int)] 24)).drew v1 l := HL.out.below ((Below.refl _ _).alloc (Nat.le_refl _) _).drew
  have b2 : BytesR (w.alloc (.cells #[.int .u32 (A : Int), .int .u32 (B : Int), .int .u32 (C : Int)] 24)).drew v2 r := HR.out.below ((Below.refl _ _).alloc (Nat.le_refl _) _).drew
  have B5 : Below w.heap.size w (w.alloc (.cells #[.int .u32 (A : Int), .int .u32 (B : Int), .int .u32 (C : Int)] 24)).drew := ((Below.refl _ _).alloc (Nat.le_refl _) _).drew
  generalize hg0 : w.heap.size = g0 at *
  have HG : Hid (w.heap.size = g0) := hg0
  clear hg0
  go_region_held3 (fun w' => w'.cell? ⟨g0, 0, none⟩ = some (.int .u32 (A : Int)) ∧ w'.cell? ⟨g0, 1, none⟩ = some (.int .u32 (B : Int)) ∧ w'.cell? ⟨g0, 2, none⟩ = some (.int .u32 (C : Int)) ∧ BytesR w' v1 l ∧ BytesR w' v2 r ∧ Below g0 w w')
    (first | assumption | exact ⟨by simp [← HG.out], by simp [← HG.out], by simp [← HG.out], b1, b2, B5⟩ | exact keepCh hb (by assumption))
    (first | (go_at_call_of 40 v1; refine (number_c v1 l _ (by assumption)).mono ?_; rintro e w' ⟨rfl, rfl⟩) | (go_at_call_of 40 v2; refine (number_c v2 r _ (by assumption)).mono ?_; rintro e w' ⟨rfl, rfl⟩) | (go_at_call 39; refine (two_c q hlast _).mono ?_; rintro e w' ⟨v, rfl, hv, hb, hnew⟩))
  all_goals
    obtain ⟨_, _, _, _, _, hB⟩ : w'.cell? ⟨g0, 0, none⟩ = some (.int .u32 (A : Int)) ∧ w'.cell? ⟨g0, 1, none⟩ = some (.int .u32 (B : Int)) ∧ w'.cell? ⟨g0, 2, none⟩ = some (.int .u32 (C : Int)) ∧ BytesR w' v1 l ∧ BytesR w' v2 r ∧ Below g0 w w' := by assumption
    have hnew' : NewV w.heap.size v := hnew.mono (by simp [World.drew] <;> omega)
    clear e1 e2 e3 e4 e5 e6 e7 b1 b2 B5 hb hn1 hn2 hnew
    go_wp2
    go_ret
    exact ⟨_, rfl, hv, HG.out ▸ hB, HG.out ▸ hnew'⟩
theorem children_c (h : Pl.HF) (ok : h.ok) (v1 v2 : Value) (l r : List Nat) (w : World) (hl : BytesR w v1 l) (hr : BytesR w v2 r) :
    Calls Tryf.prog 27 #[hashV h, v1, v2] w (RetBytes w (h.hc l r)) :=
  (children_n h ok v1 v2 l r w hl hr).mono fun _ _ ⟨v, e, hv, hb, _⟩ => ⟨v, e, hv, hb⟩
end Go.Proofs.YtpdmmmcelkinjaaFmt
