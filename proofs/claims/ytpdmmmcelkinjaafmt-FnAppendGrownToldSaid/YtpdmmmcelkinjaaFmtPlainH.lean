/- The hash function in plain numbers. -/
import Derived.Test.YtpdmmmcelkinjaaFmtPlain
namespace Go.Proofs.YtpdmmmcelkinjaaFmt.Pl
/-- The number of the first two bytes. -/
def num : List Nat → Nat
  | [] => 0
  | [a] => a
  | a :: b :: _ => a * 256 + b
def two (n : Nat) : List Nat := [n % 65521 / 256, n % 65521 % 256]
/-- A hash function's three numbers. -/
structure HF where
  A : Nat
  B : Nat
  C : Nat
def HF.ok (h : HF) : Prop := h.A < 4294967296 ∧ h.B < 4294967296 ∧ h.C < 4294967296
def HF.hc (h : HF) (l r : List Nat) : List Nat := two (h.A * num l + h.B * num r + h.C)
def Bytes (l : List Nat) : Prop := ∀ x ∈ l, x < 256
theorem two_bytes (n : Nat) : Bytes (two n) := by
  intro x hx
  simp [two] at hx
  have := Nat.mod_lt n (show 65521 > 0 by decide)
  generalize n % 65521 = m at *
  rcases hx with rfl | rfl <;> omega
theorem hc_bytes (h : HF) (l r : List Nat) : Bytes (h.hc l r) := two_bytes _
theorem hc_len (h : HF) (l r : List Nat) : (h.hc l r).length = 2 := rfl
theorem num_lt {l : List Nat} (h : Bytes l) : num l < 65536 := by
  match l, h with
  | [], _ => simp [num]
  | [a], h => have := h a (by simp); simp [num]; omega
  | a :: b :: _, h => have := h a (by simp); have := h b (by simp); simp [num]; omega
theorem num_step (l : List Nat) (k : Nat) (h2 : k < 2) (h : k < l.length) : num (l.take (k + 1)) = num (l.take k) * 256 + l[k] := by
  match l, k, h, h2 with
  | a :: l, 0, _, _ => simp [num]
  | a :: b :: l, 1, _, _ => simp [num]
theorem num_end (l : List Nat) (k : Nat) (hk : k ≤ l.length) (h : ¬ (k < 2 ∧ k < l.length)) : num (l.take k) = num l := by
  match l, k, hk, h with
  | [], 0, _, _ => rfl
  | a :: l, 0, _, h => simp at h
  | [a], 1, _, _ => rfl
  | a :: b :: l, 1, _, h => simp at h
  | a :: b :: l, k + 2, _, _ => simp [num]
theorem take_bytes {l : List Nat} (h : Bytes l) (k : Nat) : Bytes (l.take k) := fun x hx => h x (List.mem_of_mem_take hx)
theorem hc_lt {h : HF} (ok : h.ok) {l r : List Nat} (hl : Bytes l) (hr : Bytes r) :
    h.A * num l ≤ 281474976645120 ∧ h.B * num r ≤ 281474976645120 ∧ h.C < 4294967296 := by
  obtain ⟨h1, h2, h3⟩ := ok
  have n1 := num_lt hl
  have n2 := num_lt hr
  have m1 := Nat.mul_le_mul (show h.A ≤ 4294967295 by omega) (show num l ≤ 65535 by omega)
  have m2 := Nat.mul_le_mul (show h.B ≤ 4294967295 by omega) (show num r ≤ 65535 by omega)
  refine ⟨by omega, by omega, h3⟩
end Go.Proofs.YtpdmmmcelkinjaaFmt.Pl
