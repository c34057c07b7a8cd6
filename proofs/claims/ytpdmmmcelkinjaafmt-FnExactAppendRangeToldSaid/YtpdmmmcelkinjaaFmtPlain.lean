/- Plain facts on numbers and their bits: no program in sight. -/
import Derived.Laws.BitsAllLaws
import Derived.Laws.Bits64
import Derived.Laws.MathBits
namespace Go.Proofs.YtpdmmmcelkinjaaFmt.Pl
/-- How many of the lowest f bits are set. -/
def pop : Nat → Nat → Nat
  | 0, _ => 0
  | f + 1, n => n % 2 + pop f (n / 2)

theorem pop_le : ∀ f n, pop f n ≤ f
  | 0, _ => Nat.le_refl 0
  | f + 1, n => by
    have := pop_le f (n / 2)
    rw [pop]; omega
theorem pop_add (a b n : Nat) : pop (a + b) n = pop a n + pop b (n / 2 ^ a) := by
  induction a generalizing n with
  | zero => simp [pop]
  | succ a ih =>
    rw [show a + 1 + b = (a + b) + 1 by omega, pop, ih, pop, Nat.div_div_eq_div_mul, Nat.add_assoc, Nat.pow_succ, Nat.mul_comm (2 ^ a) 2]

theorem pop_mod (f n : Nat) : pop f (n % 2 ^ f) = pop f n := by
  induction f generalizing n with
  | zero => rfl
  | succ f ih =>
    have h1 : n % 2 ^ (f + 1) % 2 = n % 2 := by
      rw [Nat.mod_mod_of_dvd]; exact ⟨2 ^ f, by rw [Nat.pow_succ, Nat.mul_comm]⟩
    have h2 : n % 2 ^ (f + 1) / 2 = n / 2 % 2 ^ f := by
      rw [Nat.pow_succ, Nat.mul_comm, Nat.mod_mul_right_div_self]
    rw [pop, pop, h1, h2, ih]

theorem and_split (a b m M : Nat) (ha : a < 256) (hm : m < 256) : (256 * b + a) &&& (256 * M + m) = 256 * (b &&& M) + (a &&& m) := by
  have hl : a &&& m < 256 := Nat.lt_of_le_of_lt Nat.and_le_left ha
  apply Nat.eq_of_testBit_eq
  intro i
  have e : (256 : Nat) = 2 ^ 8 := rfl
  rw [Nat.testBit_and, e, Nat.testBit_two_pow_mul_add _ (by simpa using ha), Nat.testBit_two_pow_mul_add _ (by simpa using hm), Nat.testBit_two_pow_mul_add _ (by simpa using hl)]
  split <;> simp [Nat.testBit_and]

/-- The first three steps at one byte. -/
def byte3 (x : Nat) : Nat :=
  let a := (x / 2 &&& 85) + (x &&& 85)
  let b := (a / 4 &&& 51) + (a &&& 51)
  (b / 16 + b) &&& 15
theorem byte3_eq : ∀ x, x < 256 → byte3 x = pop 8 x := by decide +kernel
def byteA (x : Nat) : Nat := (x / 2 &&& 85) + (x &&& 85)
def byteB (x : Nat) : Nat := (x / 4 &&& 51) + (x &&& 51)
theorem byteA_lt : ∀ x, x < 256 → byteA x < 256 ∧ byteB (byteA x) < 256 ∧ byteB (byteA x) % 16 ≤ 4 ∧ byteB (byteA x) / 16 ≤ 4 := by decide +kernel
theorem carryA : ∀ x, x < 256 → ∀ y, y < 2 → ((x + 256 * y) / 2 &&& 85) = (x / 2 &&& 85) := by decide +kernel
theorem carryB : ∀ x, x < 256 → ∀ y, y < 4 → ((x + 256 * y) / 4 &&& 51) = (x / 4 &&& 51) := by decide +kernel
end Go.Proofs.YtpdmmmcelkinjaaFmt.Pl
namespace Go.Proofs.YtpdmmmcelkinjaaFmt.Pl
def mask (c : Nat) : Nat → Nat
  | 0 => 0
  | n + 1 => 256 * mask c n + c
theorem mask_succ (c n : Nat) : mask c (n + 1) = 256 * mask c n + c := rfl
def stA (n x : Nat) : Nat := (x / 2 &&& mask 85 n) + (x &&& mask 85 n)
def stB (n x : Nat) : Nat := (x / 4 &&& mask 51 n) + (x &&& mask 51 n)
def stC (n x : Nat) : Nat := (x / 16 + x) &&& mask 15 n
theorem stA_step (n a b : Nat) (ha : a < 256) : stA (n + 1) (256 * b + a) = 256 * stA n b + byteA a := by
  unfold stA byteA
  rw [mask_succ]
  have e : (256 * b + a) / 2 = 256 * (b / 2) + (a + 256 * (b % 2)) / 2 := by omega
  have hl : (a + 256 * (b % 2)) / 2 < 256 := by omega
  rw [e, and_split _ _ _ _ hl (by decide), and_split _ _ _ _ ha (by decide), carryA a ha _ (by omega)]
  omega
theorem stB_step (n a b : Nat) (ha : a < 256) : stB (n + 1) (256 * b + a) = 256 * stB n b + byteB a := by
  unfold stB byteB
  rw [mask_succ]
  have e : (256 * b + a) / 4 = 256 * (b / 4) + (a + 256 * (b % 4)) / 4 := by omega
  have hl : (a + 256 * (b % 4)) / 4 < 256 := by omega
  rw [e, and_split _ _ _ _ hl (by decide), and_split _ _ _ _ ha (by decide), carryB a ha _ (by omega)]
  omega
theorem stC_step (n a b : Nat) (h1 : a % 16 ≤ 4) (h2 : a / 16 ≤ 4) (h3 : b % 16 ≤ 4) : stC (n + 1) (256 * b + a) = 256 * stC n b + (a % 16 + a / 16) := by
  unfold stC
  rw [mask_succ]
  have e : (256 * b + a) / 16 + (256 * b + a) = 256 * (b / 16 + b) + (a / 16 + a + 16 * (b % 16)) := by omega
  rw [e, and_split _ _ _ _ (by omega) (by decide)]
  have e2 : (a / 16 + a + 16 * (b % 16)) &&& 15 = a % 16 + a / 16 := by
    have := Nat.and_two_pow_sub_one_eq_mod (a / 16 + a + 16 * (b % 16)) 4
    simp only [Nat.reducePow, Nat.reduceSub] at this
    rw [this]; omega
  rw [e2]
/-- The low nibble of the second step's result. -/
theorem lowB (n x : Nat) : stB n (stA n x) % 16 ≤ 4 := by
  cases n with
  | zero => simp [stB, stA, mask]
  | succ n =>
    have hx : x = 256 * (x / 256) + x % 256 := by omega
    rw [hx, stA_step _ _ _ (by omega), stB_step _ _ _ (byteA_lt _ (by omega)).1]
    have := (byteA_lt (x % 256) (by omega)).2.2.1
    omega
def swar (n x : Nat) : Nat := stC n (stB n (stA n x))
theorem byte3_b : ∀ x, x < 256 → byteB (byteA x) % 16 + byteB (byteA x) / 16 = pop 8 x := by decide +kernel
theorem swar_step (n x : Nat) : swar (n + 1) x = 256 * swar n (x / 256) + pop 8 (x % 256) := by
  have hx : x = 256 * (x / 256) + x % 256 := by omega
  have hb := byteA_lt (x % 256) (by omega)
  unfold swar
  conv => lhs; rw [hx, stA_step _ _ _ (by omega), stB_step _ _ _ hb.1]
  rw [stC_step _ _ _ hb.2.2.1 hb.2.2.2 (lowB n (x / 256)), byte3_b _ (by omega)]
theorem pop8_le : ∀ x, x < 256 → pop 8 x ≤ 8 := by decide +kernel
theorem pop_split8 (f x : Nat) : pop (8 + f) x = pop 8 (x % 256) + pop f (x / 256) := by
  rw [pop_add, ← pop_mod 8 x]
theorem dig (X p : Nat) (h : p < 256) : (256 * X + p) / 256 = X := by omega
theorem digsum (X Y p q : Nat) : (256 * X + p) + (256 * Y + q) = 256 * (X + Y) + (p + q) := by omega
theorem digsum0 (X p q : Nat) : (256 * X + p) + q = 256 * X + (p + q) := by omega
theorem small8a (p0 p1 p2 p3 p4 p5 p6 p7 : Nat) (b0 : p0 ≤ 8) (b1 : p1 ≤ 8) (b2 : p2 ≤ 8) (b3 : p3 ≤ 8) (b4 : p4 ≤ 8) (b5 : p5 ≤ 8) (b6 : p6 ≤ 8) (_b7 : p7 ≤ 8) :
    p0 < 256 ∧ p0 + p1 < 256 ∧ p1 + p2 < 256 ∧ p0 + p1 + (p2 + p3) < 256 ∧ p1 + p2 + (p3 + p4) < 256 ∧ p2 + p3 + (p4 + p5) < 256 ∧ p3 + p4 + (p5 + p6) < 256 := by omega
theorem small8 (p0 p1 p2 p3 p4 p5 p6 p7 : Nat) (b0 : p0 ≤ 8) (b1 : p1 ≤ 8) (b2 : p2 ≤ 8) (b3 : p3 ≤ 8) (b4 : p4 ≤ 8) (b5 : p5 ≤ 8) (b6 : p6 ≤ 8) (b7 : p7 ≤ 8) :
    (p0 + p1 + (p2 + p3) + (p4 + p5 + (p6 + p7))) % 128 = p0 + (p1 + (p2 + (p3 + (p4 + (p5 + (p6 + p7)))))) := by
  rw [Nat.mod_eq_of_lt] <;> omega
/-- What OnesCount64 does behind the third step. -/
theorem fold8 (p0 p1 p2 p3 p4 p5 p6 p7 : Nat) (h : p0 ≤ 8 ∧ p1 ≤ 8 ∧ p2 ≤ 8 ∧ p3 ≤ 8 ∧ p4 ≤ 8 ∧ p5 ≤ 8 ∧ p6 ≤ 8 ∧ p7 ≤ 8) (x x1 x2 x3 x4 x5 x6 : Nat)
    (h6 : x6 = 256 * p7 + p6) (h5 : x5 = 256 * x6 + p5) (h4 : x4 = 256 * x5 + p4) (h3 : x3 = 256 * x4 + p3) (h2 : x2 = 256 * x3 + p2) (h1 : x1 = 256 * x2 + p1) (h0 : x = 256 * x1 + p0) :
    ∃ y z u, x + x / 256 = y ∧ y + y / 65536 = z ∧ z + z / 4294967296 = u ∧ x ≤ y ∧ y ≤ z ∧ z ≤ u ∧
    u % 128 = p0 + (p1 + (p2 + (p3 + (p4 + (p5 + (p6 + p7)))))) ∧ u < 9223372036854775808 := by
  obtain ⟨b0, b1, b2, b3, b4, b5, b6, b7⟩ := h
  obtain ⟨s0, s01, s12, t0, t1, t2, t3⟩ := small8a p0 p1 p2 p3 p4 p5 p6 p7 b0 b1 b2 b3 b4 b5 b6 b7
  have e1 : x / 256 = x1 := by rw [h0]; exact dig _ _ s0
  have ey : x + x1 = 256 * (x1 + x2) + (p0 + p1) := by conv => lhs; rw [h0]; arg 2; rw [h1]
                                                       exact digsum _ _ _ _
  have ey1 : x1 + x2 = 256 * (x2 + x3) + (p1 + p2) := by conv => lhs; rw [h1]; arg 2; rw [h2]
                                                         exact digsum _ _ _ _
  have ey2 : x2 + x3 = 256 * (x3 + x4) + (p2 + p3) := by conv => lhs; rw [h2]; arg 2; rw [h3]
                                                         exact digsum _ _ _ _
  have ey3 : x3 + x4 = 256 * (x4 + x5) + (p3 + p4) := by conv => lhs; rw [h3]; arg 2; rw [h4]
                                                         exact digsum _ _ _ _
  have ey4 : x4 + x5 = 256 * (x5 + x6) + (p4 + p5) := by conv => lhs; rw [h4]; arg 2; rw [h5]
                                                         exact digsum _ _ _ _
  have ey5 : x5 + x6 = 256 * (x6 + p7) + (p5 + p6) := by conv => lhs; rw [h5]; arg 2; rw [h6]
                                                         exact digsum _ _ _ _
  have ey6 : x6 + p7 = 256 * p7 + (p6 + p7) := by conv => lhs; rw [h6]
                                                  exact digsum0 _ _ _
  have bb : x6 ≤ 2056 ∧ x5 ≤ 526344 ∧ x4 ≤ 134744072 ∧ x3 ≤ 34494482440 ∧ x2 ≤ 8830587504648 ∧ x1 ≤ 2260630401189896 ∧ x ≤ 578721382704613384 := by
    clear ey ey1 ey2 ey3 ey4 ey5 ey6 e1 s0 s01 s12 t0 t1 t2 t3; omega
  clear h0 h1 h2 h3 h4 h5 h6
  generalize hY0 : x + x1 = Y0 at *
  generalize hY1 : x1 + x2 = Y1 at *
  generalize hY2 : x2 + x3 = Y2 at *
  generalize hY3 : x3 + x4 = Y3 at *
  generalize hY4 : x4 + x5 = Y4 at *
  generalize hY5 : x5 + x6 = Y5 at *
  generalize hY6 : x6 + p7 = Y6 at *
  have cc : Y0 ≤ 580982013105803280 ∧ Y2 ≤ 8865081987088 ∧ Y4 ≤ 135270416 ∧ Y6 ≤ 2064 ∧ x ≤ Y0 := by clear ey ey1 ey2 ey3 ey4 ey5 ey6; omega
  clear hY1 hY2 hY3 hY4 hY5 hY6
  have e2 : Y0 / 65536 = Y2 := by
    rw [show (65536 : Nat) = 256 * 256 from rfl, ← Nat.div_div_eq_div_mul, ey, dig _ _ s01, ey1, dig _ _ s12]
  have ez : Y0 + Y2 = 256 * (Y1 + Y3) + (p0 + p1 + (p2 + p3)) := by conv => lhs; rw [ey]; arg 2; rw [ey2]
                                                                    exact digsum _ _ _ _
  have ez1 : Y1 + Y3 = 256 * (Y2 + Y4) + (p1 + p2 + (p3 + p4)) := by conv => lhs; rw [ey1]; arg 2; rw [ey3]
                                                                     exact digsum _ _ _ _
  have ez2 : Y2 + Y4 = 256 * (Y3 + Y5) + (p2 + p3 + (p4 + p5)) := by conv => lhs; rw [ey2]; arg 2; rw [ey4]
                                                                     exact digsum _ _ _ _
  have ez3 : Y3 + Y5 = 256 * (Y4 + Y6) + (p3 + p4 + (p5 + p6)) := by conv => lhs; rw [ey3]; arg 2; rw [ey5]
                                                                     exact digsum _ _ _ _
  have ez4 : Y4 + Y6 = 256 * (Y5 + p7) + (p4 + p5 + (p6 + p7)) := by conv => lhs; rw [ey4]; arg 2; rw [ey6]
                                                                     exact digsum _ _ _ _
  clear ey ey1 ey2 ey3 ey4 ey5 ey6
  refine ⟨Y0, Y0 + Y2, Y0 + Y2 + (Y4 + Y6), by rw [e1]; exact hY0, by rw [e2], ?_, ?_⟩
  · congr 1
    rw [show (4294967296 : Nat) = 256 * 256 * 256 * 256 from rfl, ← Nat.div_div_eq_div_mul, ← Nat.div_div_eq_div_mul, ← Nat.div_div_eq_div_mul,
      ez, dig _ _ t0, ez1, dig _ _ t1, ez2, dig _ _ t2, ez3, dig _ _ t3]
  · refine ⟨cc.2.2.2.2, Nat.le_add_right _ _, Nat.le_add_right _ _, ?_, ?_⟩
    · rw [ez, ez4, digsum, ← small8 p0 p1 p2 p3 p4 p5 p6 p7 b0 b1 b2 b3 b4 b5 b6 b7]
      generalize Y1 + Y3 + (Y5 + p7) = V
      generalize p0 + p1 + (p2 + p3) + (p4 + p5 + (p6 + p7)) = S
      clear hY0 t0 t1 t2 t3 s0 s01 s12 ez ez1 ez2 ez3 ez4 e1 e2 bb cc
      omega
    · clear hY0 t0 t1 t2 t3 s0 s01 s12 ez ez1 ez2 ez3 ez4 e1 e2 bb
      omega
def pop64 (x : Nat) : Nat := pop 64 x
theorem ones64 (x : Nat) (a b c : Nat)
    (ha : a = (x / 2 &&& 6148914691236517205) + (x &&& 6148914691236517205))
    (hb : b = (a / 4 &&& 3689348814741910323) + (a &&& 3689348814741910323))
    (hc : c = (b / 16 + b) &&& 1085102592571150095) (hx : x < 18446744073709551616) :
    ∃ y z u, c + c / 256 = y ∧ y + y / 65536 = z ∧ z + z / 4294967296 = u ∧ c ≤ y ∧ y ≤ z ∧ z ≤ u ∧ u % 128 = pop64 x ∧ u < 9223372036854775808 := by
  have hc' : c = swar 8 x := by rw [hc, hb, ha]; rfl
  have e0 : swar 0 (x / 256 / 256 / 256 / 256 / 256 / 256 / 256 / 256) = 0 := by simp [swar, stC, mask]
  have ep : pop64 x = pop 8 (x % 256) + (pop 8 (x / 256 % 256) + (pop 8 (x / 256 / 256 % 256) + (pop 8 (x / 256 / 256 / 256 % 256) + (pop 8 (x / 256 / 256 / 256 / 256 % 256) + (pop 8 (x / 256 / 256 / 256 / 256 / 256 % 256) + (pop 8 (x / 256 / 256 / 256 / 256 / 256 / 256 % 256) + pop 8 (x / 256 / 256 / 256 / 256 / 256 / 256 / 256 % 256))))))) := by
    unfold pop64
    rw [pop_split8 56, pop_split8 48, pop_split8 40, pop_split8 32, pop_split8 24, pop_split8 16, pop_split8 8]
    rw [show x / 256 / 256 / 256 / 256 / 256 / 256 / 256 % 256 = x / 256 / 256 / 256 / 256 / 256 / 256 / 256 by
      rw [Nat.mod_eq_of_lt]; simp only [Nat.div_div_eq_div_mul, Nat.reduceMul]; omega]
  have l : ∀ t, pop 8 (t % 256) ≤ 8 := fun t => pop8_le _ (Nat.mod_lt _ (by decide))
  have e7 : swar 1 (x / 256 / 256 / 256 / 256 / 256 / 256 / 256) = pop 8 (x / 256 / 256 / 256 / 256 / 256 / 256 / 256 % 256) := by rw [swar_step, e0]; omega
  have hf := fold8 _ _ _ _ _ _ _ _ ⟨l x, l (x / 256), l (x / 256 / 256), l (x / 256 / 256 / 256), l (x / 256 / 256 / 256 / 256), l (x / 256 / 256 / 256 / 256 / 256), l (x / 256 / 256 / 256 / 256 / 256 / 256), l (x / 256 / 256 / 256 / 256 / 256 / 256 / 256)⟩
    (swar 8 x) (swar 7 (x / 256)) (swar 6 (x / 256 / 256)) (swar 5 (x / 256 / 256 / 256)) (swar 4 (x / 256 / 256 / 256 / 256)) (swar 3 (x / 256 / 256 / 256 / 256 / 256)) (swar 2 (x / 256 / 256 / 256 / 256 / 256 / 256))
    (by rw [← e7]; exact swar_step _ _) (swar_step _ _) (swar_step _ _) (swar_step _ _) (swar_step _ _) (swar_step _ _) (swar_step _ _)
  rw [ep, hc']
  exact hf
end Go.Proofs.YtpdmmmcelkinjaaFmt.Pl

namespace Go.Proofs.YtpdmmmcelkinjaaFmt.Pl
theorem xor1 (n : Nat) : n ^^^ 1 = if n % 2 = 1 then n - 1 else n + 1 := by
  have h1 : (n ^^^ 1) % 2 ^ 1 = n % 2 ^ 1 ^^^ 1 % 2 ^ 1 := Nat.xor_mod_two_pow
  have h2 : (n ^^^ 1) / 2 ^ 1 = n / 2 ^ 1 ^^^ 1 / 2 ^ 1 := Nat.xor_div_two_pow
  simp only [Nat.pow_one, Nat.reduceMod, Nat.reduceDiv, Nat.xor_zero] at h1 h2
  rcases Nat.mod_two_eq_zero_or_one n with h | h
  · rw [h, show 0 ^^^ 1 = 1 from rfl] at h1; rw [if_neg (by omega)]; omega
  · rw [h, show 1 ^^^ 1 = 0 from rfl] at h1; rw [if_pos h]; omega
theorem xorOne (b : Int) (h0 : 0 ≤ b) (h1 : b < 18446744073709551616) : bits .xor .u64 b 1 = if b % 2 = 1 then b - 1 else b + 1 := by
  obtain ⟨n, rfl⟩ := Int.eq_ofNat_of_zero_le h0
  have := u64_xor_nat n 1 (by omega) (by omega)
  rw [show ((1 : Nat) : Int) = 1 from rfl] at this
  rw [this, xor1]
  split <;> split <;> omega

/-- What two siblings and their parent cover, in numbers: m the beginning, p the width of each. -/
theorem sib_nums (a b : Int) (h0 : 0 ≤ a) (h4 : a ≤ 40) (h2 : 0 ≤ b) (h5 : b ≤ 1048576) : ∃ c m q r p s : Int, 0 ≤ c ∧ c ≤ 1048577 ∧ bits .xor .u64 b 1 = c ∧ bits .xor .u64 c 1 = b ∧ c / 2 = b / 2 ∧ c ≠ b ∧
    m < q ∧ q < r ∧ IntKind.u64.wrap (q - m) = p ∧ IntKind.u64.wrap (r - q) = p ∧ IntKind.u64.wrap (r - m) = s ∧ IntKind.u64.wrap (2 * p) = s ∧
    IntKind.u64.wrap (b / 2 * 2 ^ (a + 1).toNat) = m ∧ IntKind.u64.wrap ((b / 2 + 1) * 2 ^ (a + 1).toNat) = r ∧
    ((IntKind.u64.wrap (b * 2 ^ a.toNat) = m ∧ IntKind.u64.wrap ((b + 1) * 2 ^ a.toNat) = q ∧ IntKind.u64.wrap (c * 2 ^ a.toNat) = q ∧ IntKind.u64.wrap ((c + 1) * 2 ^ a.toNat) = r) ∨
     (IntKind.u64.wrap (b * 2 ^ a.toNat) = q ∧ IntKind.u64.wrap ((b + 1) * 2 ^ a.toNat) = r ∧ IntKind.u64.wrap (c * 2 ^ a.toNat) = m ∧ IntKind.u64.wrap ((c + 1) * 2 ^ a.toNat) = q)) := by
  have ep : (2 : Int) ^ (a + 1).toNat = 2 * 2 ^ a.toNat := by
    rw [show (a + 1).toNat = a.toNat + 1 by omega, Int.pow_succ, Int.mul_comm]
  have hp0 : (0 : Int) < 2 ^ a.toNat := Int.pow_pos (by omega)
  have hp1 : (2 : Int) ^ a.toNat ≤ 1099511627776 := by
    have h := Nat.pow_le_pow_right (n := 2) (by omega) (show a.toNat ≤ 40 by omega)
    have e : ((2 ^ a.toNat : Nat) : Int) = (2 : Int) ^ a.toNat := by simp
    rw [← e]
    omega
  rw [ep]
  generalize (2 : Int) ^ a.toNat = P at *
  have hk : b / 2 * P ≤ 524288 * P := Int.mul_le_mul_of_nonneg_right (by omega) (by omega)
  have hk0 : 0 ≤ b / 2 * P := Int.mul_nonneg (by omega) (by omega)
  have w_ : ∀ x : Int, 0 ≤ x → x < 18446744073709551616 → IntKind.u64.wrap x = x := fun x h1 h2 => by rw [IntKind.wrap_u64]; omega
  have e1 : b / 2 * (2 * P) = 2 * (b / 2 * P) := by rw [Int.mul_left_comm]
  have e2 : (b / 2 + 1) * (2 * P) = 2 * (b / 2 * P) + 2 * P := by rw [Int.add_mul, e1]; omega
  rw [e1, e2]
  rcases (show b % 2 = 0 ∨ b % 2 = 1 by omega) with hb | hb
  · have eb : b * P = 2 * (b / 2 * P) := by
      conv => lhs; rw [show b = 2 * (b / 2) by omega]
      rw [Int.mul_assoc]
    have ex := xorOne b h2 (by omega)
    rw [if_neg (by omega)] at ex
    have ex2 := xorOne (b + 1) (by omega) (by omega)
    rw [if_pos (by omega)] at ex2
    generalize b / 2 * P = M at *
    refine ⟨b + 1, 2 * M, 2 * M + P, 2 * M + 2 * P, P, 2 * P, by omega, by omega, ex, by rw [ex2]; omega, by omega, by omega, by omega, by omega, ?_, ?_, ?_, ?_, ?_, ?_, .inl ⟨?_, ?_, ?_, ?_⟩⟩
    · rw [w_] <;> omega
    · rw [w_] <;> omega
    · rw [w_] <;> omega
    · rw [w_] <;> omega
    · rw [w_] <;> omega
    · rw [w_] <;> omega
    · rw [eb, w_] <;> omega
    · rw [Int.add_mul, eb, w_] <;> omega
    · rw [Int.add_mul, eb, w_] <;> omega
    · rw [Int.add_mul, Int.add_mul, eb, w_] <;> omega
  · have eb : b * P = 2 * (b / 2 * P) + P := by
      conv => lhs; rw [show b = 2 * (b / 2) + 1 by omega]
      rw [Int.add_mul, Int.mul_assoc]; omega
    have ex := xorOne b h2 (by omega)
    rw [if_pos (by omega)] at ex
    have ex2 := xorOne (b - 1) (by omega) (by omega)
    rw [if_neg (by omega)] at ex2
    generalize b / 2 * P = M at *
    refine ⟨b - 1, 2 * M, 2 * M + P, 2 * M + 2 * P, P, 2 * P, by omega, by omega, ex, by rw [ex2]; omega, by omega, by omega, by omega, by omega, ?_, ?_, ?_, ?_, ?_, ?_, .inr ⟨?_, ?_, ?_, ?_⟩⟩
    · rw [w_] <;> omega
    · rw [w_] <;> omega
    · rw [w_] <;> omega
    · rw [w_] <;> omega
    · rw [w_] <;> omega
    · rw [w_] <;> omega
    · rw [eb, w_] <;> omega
    · rw [Int.add_mul, eb, w_] <;> omega
    · rw [Int.sub_mul, eb, w_] <;> omega
    · rw [show b - 1 + 1 = b by omega, eb, w_] <;> omega
end Go.Proofs.YtpdmmmcelkinjaaFmt.Pl

namespace Go.Proofs.YtpdmmmcelkinjaaFmt.Pl
theorem blen_zero : bitLen 0 = 0 := by simp [bitLen]
theorem blen_pos {n : Nat} (h : n ≠ 0) : bitLen n = bitLen (n / 2) + 1 := by
  unfold bitLen
  rw [if_neg h]
  by_cases h2 : n / 2 = 0
  · rw [if_pos h2]
    have : n = 1 := by omega
    subst this; rfl
  · rw [if_neg h2, Nat.log2_def n, if_pos (by omega)]
theorem blen_le {n k : Nat} (h : n < 2 ^ k) : bitLen n ≤ k := by
  have := (bitLen_spec n).2
  by_cases h0 : n = 0
  · subst h0; simp [bitLen]
  · have h1 := this h0
    rcases Nat.lt_or_ge k (bitLen n) with hl | hl
    · have := Nat.pow_le_pow_right (n := 2) (by omega) (show k ≤ bitLen n - 1 by omega)
      omega
    · exact hl
theorem lt_blen (n : Nat) : n < 2 ^ bitLen n := (bitLen_spec n).1
theorem blen_gt {n k : Nat} (h : 2 ^ k ≤ n) : k < bitLen n := by
  rcases Nat.lt_or_ge k (bitLen n) with hl | hl
  · exact hl
  · have h1 := lt_blen n
    have := Nat.pow_le_pow_right (n := 2) (by omega) hl
    omega

/-! ### The two masks -/
/-- The mask of what lies strictly under the place where the paths to b - 1 and to e part. -/
def dcut (b e : Nat) : Nat := bitLen ((b - 1) ^^^ e) - 1
def decL (b e : Nat) : Nat := if b = 0 then 0 else (18446744073709551615 - (b - 1)) % 2 ^ dcut b e
def decR (b e : Nat) : Nat := if b = 0 then e else e % 2 ^ dcut b e

/-- The levels of the set bits of a mask, from the least on: f of them, the first of which has the number k. -/
def asc : Nat → Nat → Nat → List Nat
  | 0, _, _ => []
  | f + 1, k, m => if m % 2 = 1 then k :: asc f (k + 1) (m / 2) else asc f (k + 1) (m / 2)
/-- The nodes of the fewest perfect trees of the leaves (of level k) from b up to e. -/
def pcs : Nat → Nat → Nat → Nat → List (Nat × Nat)
  | 0, _, _, _ => []
  | f + 1, k, b, e => if e ≤ b then [] else
    (if b % 2 = 1 then [(k, b)] else []) ++ (pcs f (k + 1) ((b + 1) / 2) (e / 2) ++ if e % 2 = 1 then [(k, e - 1)] else [])
def pieces (b e : Nat) : List (Nat × Nat) := pcs 64 0 b e

theorem pcs_nil (f k b e : Nat) (h : e ≤ b) : pcs f k b e = [] := by
  cases f with
  | zero => rfl
  | succ f => rw [pcs, if_pos h]

/-- The greedy choice: the greatest tree that begins at b and is not too long. -/
theorem pcs_cons : ∀ (f k b e l : Nat), b < e → e < 2 ^ f → b % 2 ^ l = 0 → 2 ^ l ≤ e - b → (b % 2 ^ (l + 1) ≠ 0 ∨ e - b < 2 ^ (l + 1)) →
    pcs f k b e = (k + l, b / 2 ^ l) :: pcs f k (b + 2 ^ l) e := by
  intro f
  induction f with
  | zero => intro k b e l h he; simp at he; omega
  | succ f ih =>
    intro k b e l h he h1 h2 h3
    rw [pcs, if_neg (by omega)]
    have he2 : e / 2 < 2 ^ f := by rw [Nat.pow_succ] at he; omega
    cases l with
    | zero =>
      simp only [Nat.pow_zero, Nat.div_one, Nat.add_zero] at *
      rcases Nat.mod_two_eq_zero_or_one b with hb | hb
      · have : e = b + 1 := by
          rcases h3 with h3 | h3
          · simp at h3; omega
          · simp at h3; omega
        subst this
        rw [pcs_nil f _ _ _ (by omega), pcs_nil (f + 1) _ _ _ (by omega), if_neg (by omega), if_pos (by omega)]
        simp
      · rw [if_pos hb]
        simp only [List.cons_append, List.nil_append, List.cons.injEq, true_and]
        by_cases hq : e ≤ b + 1
        · rw [pcs_nil (f + 1) _ _ _ hq, pcs_nil f _ _ _ (by omega), if_neg (by omega)]; rfl
        · rw [pcs, if_neg hq, if_neg (show ¬ (b + 1) % 2 = 1 by omega), show (b + 1 + 1) / 2 = (b + 1) / 2 by omega]
          rfl
    | succ l =>
      have hp : 2 ^ (l + 1) = 2 * 2 ^ l := by rw [Nat.pow_succ, Nat.mul_comm]
      have hp2 : 2 ^ (l + 1 + 1) = 2 * 2 ^ (l + 1) := by rw [Nat.pow_succ, Nat.mul_comm]
      have hpos : 0 < 2 ^ l := Nat.two_pow_pos l
      have hb : b % 2 = 0 := by
        have h := Nat.mod_mod_of_dvd b (show 2 ∣ 2 ^ (l + 1) from ⟨2 ^ l, hp⟩)
        rw [h1] at h; omega
      have hm : b / 2 % 2 ^ l = 0 := by
        have := Nat.mod_mul_right_div_self b 2 (2 ^ l)
        rw [← hp, h1] at this; omega
      have hm2 : b / 2 % 2 ^ (l + 1) = b % 2 ^ (l + 1 + 1) / 2 := by
        have := Nat.mod_mul_right_div_self b 2 (2 ^ (l + 1))
        rw [← hp2] at this; omega
      have hmev : b % 2 ^ (l + 1 + 1) % 2 = 0 := by
        have h := Nat.mod_mod_of_dvd b (show 2 ∣ 2 ^ (l + 1 + 1) from ⟨2 ^ (l + 1), hp2⟩)
        omega
      have hi := ih (k + 1) (b / 2) (e / 2) l (by omega) he2 hm (by omega) (by
        rcases h3 with h3 | h3
        · left; omega
        · right; omega)
      rw [if_neg (show ¬ b % 2 = 1 by omega), show (b + 1) / 2 = b / 2 by omega, hi]
      have hd : b / 2 / 2 ^ l = b / 2 ^ (l + 1) := by rw [Nat.div_div_eq_div_mul, ← hp]
      by_cases hq : e ≤ b + 2 ^ (l + 1)
      · rw [pcs_nil (f + 1) _ _ _ hq, pcs_nil f _ _ _ (by omega), hd, if_neg (by omega)]
        simp; omega
      · rw [pcs, if_neg hq, if_neg (show ¬ (b + 2 ^ (l + 1)) % 2 = 1 by omega), show (b + 2 ^ (l + 1) + 1) / 2 = b / 2 + 2 ^ l by omega, hd]
        simp; omega

theorem asc_zero : ∀ f k, asc f k 0 = []
  | 0, _ => rfl
  | f + 1, k => by rw [asc, if_neg (by omega)]; exact asc_zero f (k + 1)
theorem asc_length : ∀ f k m, (asc f k m).length = pop f m
  | 0, _, _ => rfl
  | f + 1, k, m => by
    rw [asc, pop]
    rcases Nat.mod_two_eq_zero_or_one m with h | h
    · rw [if_neg (by omega), asc_length f, h, Nat.zero_add]
    · rw [if_pos h, List.length_cons, asc_length f, h, Nat.add_comm]
theorem asc_snoc : ∀ n k m, asc (n + 1) k m = asc n k m ++ if m / 2 ^ n % 2 = 1 then [k + n] else []
  | 0, k, m => by simp [asc]
  | n + 1, k, m => by
    have h := asc_snoc n (k + 1) (m / 2)
    have e1 : asc (n + 1 + 1) k m = if m % 2 = 1 then k :: asc (n + 1) (k + 1) (m / 2) else asc (n + 1) (k + 1) (m / 2) := rfl
    have e2 : asc (n + 1) k m = if m % 2 = 1 then k :: asc n (k + 1) (m / 2) else asc n (k + 1) (m / 2) := rfl
    rw [e1, e2, h]
    rw [Nat.div_div_eq_div_mul, show 2 * 2 ^ n = 2 ^ (n + 1) by rw [Nat.pow_succ, Nat.mul_comm], show k + 1 + n = k + (n + 1) by omega]
    split <;> simp
/-- The levels of a mask's bits, from the j-th on. -/
def ascFrom (j m : Nat) : List Nat := asc (64 - j) j (m / 2 ^ j)
theorem ascFrom_top (m : Nat) : ascFrom 64 m = [] := rfl
theorem ascFrom_zero (m : Nat) : ascFrom 0 m = asc 64 0 m := by simp [ascFrom]
theorem ascFrom_step (j m : Nat) (h : j < 64) : ascFrom j m = (if m / 2 ^ j % 2 = 1 then [j] else []) ++ ascFrom (j + 1) m := by
  unfold ascFrom
  rw [show 64 - j = (64 - (j + 1)) + 1 by omega, asc, Nat.div_div_eq_div_mul, ← Nat.pow_succ]
  split <;> simp

theorem xor_half (x e : Nat) : (x ^^^ e) / 2 = x / 2 ^^^ e / 2 := by
  have h : (x ^^^ e) / 2 ^ 1 = x / 2 ^ 1 ^^^ e / 2 ^ 1 := Nat.xor_div_two_pow
  simpa using h
theorem xor_ne {x e : Nat} (h : x ≠ e) : x ^^^ e ≠ 0 := by
  intro h0
  apply h
  have : (x ^^^ e) ^^^ e = x := by rw [Nat.xor_assoc, Nat.xor_self, Nat.xor_zero]
  rw [h0, Nat.zero_xor] at this
  exact this.symm
def cut (x e : Nat) : Nat := bitLen (x ^^^ e) - 1
theorem cut_next {x e : Nat} (h : x < e) (hh : e / 2 = x / 2) : cut x e = 0 := by
  unfold cut
  have h0 : (x ^^^ e) / 2 = 0 := by rw [xor_half, hh, Nat.xor_self]
  rw [blen_pos (xor_ne (by omega)), h0, blen_zero]
theorem cut_step {x e : Nat} (h : x / 2 < e / 2) : cut x e = cut (x / 2) (e / 2) + 1 := by
  unfold cut
  rw [blen_pos (xor_ne (show x ≠ e by omega)), xor_half, blen_pos (xor_ne (show x / 2 ≠ e / 2 by omega))]
  omega
theorem cut_lt {x e f : Nat} (hx : x < 2 ^ f) (he : e < 2 ^ f) : cut x e ≤ f := by
  unfold cut
  have := blen_le (Nat.xor_lt_two_pow hx he)
  omega
theorem mod_pow_succ (m D : Nat) : m % 2 ^ (D + 1) % 2 = m % 2 ∧ m % 2 ^ (D + 1) / 2 = m / 2 % 2 ^ D := by
  have hp : 2 ^ (D + 1) = 2 * 2 ^ D := by rw [Nat.pow_succ, Nat.mul_comm]
  exact ⟨Nat.mod_mod_of_dvd m ⟨2 ^ D, hp⟩, by rw [hp, Nat.mod_mul_right_div_self]⟩

/-- **Both masks: which levels they tell, and their sum.** -/
theorem masks : ∀ (f k x e : Nat), x < e → e < 2 ^ f →
    (pcs f k (x + 1) e).map (·.1) = asc f k ((2 ^ f - 1 - x) % 2 ^ cut x e) ++ (asc f k (e % 2 ^ cut x e)).reverse ∧
    (2 ^ f - 1 - x) % 2 ^ cut x e + e % 2 ^ cut x e + x + 1 = e := by
  intro f
  induction f with
  | zero => intro k x e h he; simp at he; omega
  | succ f ih =>
    intro k x e h he
    have hp : 2 ^ (f + 1) = 2 * 2 ^ f := by rw [Nat.pow_succ, Nat.mul_comm]
    have hpos : 0 < 2 ^ f := Nat.two_pow_pos f
    by_cases hh : e / 2 = x / 2
    · rw [cut_next h hh, pcs_nil _ _ _ _ (by omega)]
      simp [Nat.mod_one, asc_zero]
      omega
    · have hlt : x / 2 < e / 2 := by omega
      have he2 : e / 2 < 2 ^ f := by omega
      obtain ⟨i1, i2⟩ := ih (k + 1) (x / 2) (e / 2) hlt he2
      rw [cut_step hlt]
      generalize cut (x / 2) (e / 2) = D at *
      obtain ⟨a1, a2⟩ := mod_pow_succ (2 ^ (f + 1) - 1 - x) D
      obtain ⟨b1, b2⟩ := mod_pow_succ e D
      have c1 : (2 ^ (f + 1) - 1 - x) % 2 = 1 - x % 2 := by omega
      have c2 : (2 ^ (f + 1) - 1 - x) / 2 = 2 ^ f - 1 - x / 2 := by omega
      rw [c1] at a1
      rw [c2] at a2
      generalize (2 ^ (f + 1) - 1 - x) % 2 ^ (D + 1) = A at *
      generalize e % 2 ^ (D + 1) = B at *
      rw [← a2, ← b2] at i2
      refine ⟨?_, by clear i1; omega⟩
      rw [asc, asc, a1, a2, b1, b2, pcs]
      by_cases hq : e ≤ x + 1
      · have hx : x % 2 = 1 := by omega
        have hy : e % 2 = 0 := by omega
        rw [if_pos hq, hx, hy, if_neg (by omega), if_neg (by omega), ← i1, pcs_nil _ _ _ _ (by omega)]
      · rw [if_neg hq, show (x + 1 + 1) / 2 = x / 2 + 1 by omega]
        simp only [List.map_append, i1]
        rcases Nat.mod_two_eq_zero_or_one x with hx | hx <;> rcases Nat.mod_two_eq_zero_or_one e with hy | hy <;>
          simp [hx, hy, show (x + 1) % 2 = 1 - x % 2 by omega]
theorem pcs_from0 : ∀ (f k e : Nat), e < 2 ^ f → (pcs f k 0 e).map (·.1) = (asc f k e).reverse := by
  intro f
  induction f with
  | zero => intro k e he; rfl
  | succ f ih =>
    intro k e he
    have hp : 2 ^ (f + 1) = 2 * 2 ^ f := by rw [Nat.pow_succ, Nat.mul_comm]
    rw [pcs, asc]
    by_cases h0 : e ≤ 0
    · obtain rfl : e = 0 := by omega
      simp [asc_zero]
    · rw [if_neg h0, if_neg (show ¬ 0 % 2 = 1 by omega), List.nil_append, List.map_append, show (0 + 1) / 2 = 0 by omega, ih (k + 1) (e / 2) (by omega)]
      split <;> simp

theorem dec_levels (b e : Nat) (h : b ≤ e) (he : e < 18446744073709551616) : (pieces b e).map (·.1) = asc 64 0 (decL b e) ++ (asc 64 0 (decR b e)).reverse := by
  unfold pieces decL decR dcut
  by_cases h0 : b = 0
  · subst h0
    simp only [if_true, asc_zero, List.nil_append]
    exact pcs_from0 64 0 e he
  · rw [if_neg h0, if_neg h0]
    have := (masks 64 0 (b - 1) e (by omega) he).1
    rw [show b - 1 + 1 = b by omega] at this
    exact this
theorem dec_sum (b e : Nat) (h : b ≤ e) (he : e < 18446744073709551616) : decL b e + decR b e = e - b := by
  unfold decL decR dcut
  by_cases h0 : b = 0
  · subst h0; simp
  · rw [if_neg h0, if_neg h0]
    have := (masks 64 0 (b - 1) e (by omega) he).2
    unfold cut at this
    simp only [Nat.reducePow, Nat.reduceSub] at this
    omega
theorem dec_lt (b e : Nat) (he : e < 18446744073709551616) : decL b e < 18446744073709551616 ∧ decR b e < 18446744073709551616 := by
  unfold decL decR
  split
  · exact ⟨by omega, he⟩
  · exact ⟨Nat.lt_of_le_of_lt (Nat.mod_le _ _) (by omega), Nat.lt_of_le_of_lt (Nat.mod_le _ _) he⟩
theorem dec_count (b e : Nat) (h : b ≤ e) (he : e < 18446744073709551616) : (pieces b e).length = pop64 (decL b e) + pop64 (decR b e) := by
  have := congrArg List.length (dec_levels b e h he)
  rw [List.length_map, List.length_append, List.length_reverse, asc_length, asc_length] at this
  exact this
theorem pieces_len (b e : Nat) (he : e < 18446744073709551616) : (pieces b e).length ≤ 128 := by
  by_cases h : b ≤ e
  · have h1 := dec_count b e h he
    have h2 := pop_le 64 (decL b e)
    have h3 := pop_le 64 (decR b e)
    unfold pop64 at h1
    omega
  · unfold pieces
    rw [pcs_nil _ _ _ _ (by omega)]
    simp
theorem asc_lt : ∀ (f k m x : Nat), x ∈ asc f k m → x < k + f
  | 0, _, _, _, h => by cases h
  | f + 1, k, m, x, h => by
    have ih := asc_lt f (k + 1) (m / 2) x
    rw [asc] at h
    split at h
    · rcases List.mem_cons.1 h with rfl | h
      · omega
      · have := ih h; omega
    · have := ih h; omega
end Go.Proofs.YtpdmmmcelkinjaaFmt.Pl
/- Plain facts on how the nodes of a range are told by the two masks. -/
open Go
namespace Go.Proofs.YtpdmmmcelkinjaaFmt.Pl
/-- A set bit is struck by xor. -/
theorem xor_bit : ∀ (t m : Nat), m / 2 ^ t % 2 = 1 → m ^^^ 2 ^ t = m - 2 ^ t ∧ 2 ^ t ≤ m
  | 0, m, h => by
    rw [Nat.pow_zero, Nat.div_one] at h
    have := xor1 m
    rw [if_pos h] at this
    exact ⟨this, by simp; omega⟩
  | t + 1, m, h => by
    have hp : 2 ^ (t + 1) = 2 * 2 ^ t := by rw [Nat.pow_succ, Nat.mul_comm]
    have h' : m / 2 / 2 ^ t % 2 = 1 := by rw [Nat.div_div_eq_div_mul, ← hp]; exact h
    obtain ⟨i1, i2⟩ := xor_bit t (m / 2) h'
    have e1 : (m ^^^ 2 ^ (t + 1)) / 2 = m / 2 ^^^ 2 ^ t := by rw [xor_half, hp, Nat.mul_div_cancel_left _ (by omega)]
    have e2 : (m ^^^ 2 ^ (t + 1)) % 2 = m % 2 := by
      have h : (m ^^^ 2 ^ (t + 1)) % 2 ^ 1 = m % 2 ^ 1 ^^^ 2 ^ (t + 1) % 2 ^ 1 := Nat.xor_mod_two_pow
      rw [Nat.pow_one, hp, Nat.mul_mod_right, Nat.xor_zero] at h
      rw [hp]; exact h
    rw [i1] at e1
    generalize m ^^^ 2 ^ (t + 1) = X at *
    generalize 2 ^ (t + 1) = P at *
    generalize 2 ^ t = Q at *
    omega
theorem odd_mul_bit (t q : Nat) : 2 ^ t * (2 * q + 1) / 2 ^ t % 2 = 1 := by
  rw [Nat.mul_div_cancel_left _ (Nat.two_pow_pos t)]; omega
theorem top_bit (m : Nat) (h : m ≠ 0) : m / 2 ^ (bitLen m - 1) % 2 = 1 ∧ 2 ^ (bitLen m - 1) ≤ m ∧ m < 2 ^ bitLen m := by
  obtain ⟨h1, h2⟩ := bitLen_spec m
  have h3 := h2 h
  have hb := blen_pos h
  have e : 2 ^ bitLen m = 2 ^ (bitLen m - 1) * 2 := by rw [← Nat.pow_succ, show (bitLen m - 1).succ = bitLen m by omega]
  have hp := Nat.two_pow_pos (bitLen m - 1)
  refine ⟨?_, h3, h1⟩
  rw [e] at h1
  have : m / 2 ^ (bitLen m - 1) = 1 := by
    apply Nat.div_eq_of_lt_le <;> omega
  rw [this]

/-- What the loop over the left mask keeps. -/
def LeftOk (D pos left e : Nat) : Prop := D ≤ 64 ∧ left < 2 ^ D ∧ (pos + left) % 2 ^ D = 0 ∧ pos + left ≤ e ∧ e - (pos + left) < 2 ^ D
theorem left_start (b e : Nat) (h : b ≤ e) (he : e < 18446744073709551616) : ∃ D, LeftOk D b (decL b e) e ∧ decR b e = e - (b + decL b e) := by
  have hs := dec_sum b e h he
  by_cases h0 : b = 0
  · subst h0
    refine ⟨64, ⟨Nat.le_refl _, ?_, ?_, ?_, ?_⟩, by omega⟩ <;> simp [decL] <;> omega
  · refine ⟨dcut b e, ⟨?_, ?_, ?_, by omega, ?_⟩, by omega⟩
    · exact cut_lt (x := b - 1) (e := e) (f := 64) (by omega) he
    · unfold decL; rw [if_neg h0]; exact Nat.mod_lt _ (Nat.two_pow_pos _)
    · have hD : dcut b e ≤ 64 := cut_lt (x := b - 1) (e := e) (f := 64) (by omega) he
      unfold decL; rw [if_neg h0]
      have h1 : b + (18446744073709551615 - (b - 1)) = 2 ^ 64 := by omega
      have h2 : 2 ^ dcut b e ∣ 2 ^ 64 := Nat.pow_dvd_pow 2 hD
      rw [Nat.add_mod_mod, h1]
      exact Nat.mod_eq_zero_of_dvd h2
    · have : decR b e < 2 ^ dcut b e := by unfold decR; rw [if_neg h0]; exact Nat.mod_lt _ (Nat.two_pow_pos _)
      omega
theorem left_step {D pos left e t q : Nat} (h : LeftOk D pos left e) (he : e < 18446744073709551616) (hl : left = 2 ^ t * (2 * q + 1)) :
    pieces pos e = (t, pos / 2 ^ t) :: pieces (pos + 2 ^ t) e ∧ left ^^^ 2 ^ t = left - 2 ^ t ∧ LeftOk D (pos + 2 ^ t) (left - 2 ^ t) e ∧ 2 ^ t ≤ left := by
  obtain ⟨hD, h1, h2, h3, h4⟩ := h
  have hb := xor_bit t left (by rw [hl]; exact odd_mul_bit t q)
  have hp := Nat.two_pow_pos t
  have htD : t < D := by
    rcases Nat.lt_or_ge t D with h | h
    · exact h
    · have := Nat.pow_le_pow_right (n := 2) (by omega) h
      omega
  have hm : (pos + left) % 2 ^ (t + 1) = 0 := by
    have hd : 2 ^ (t + 1) ∣ 2 ^ D := Nat.pow_dvd_pow 2 htD
    have := Nat.mod_mod_of_dvd (pos + left) hd
    rw [h2] at this
    simpa using this.symm
  have e1 : 2 ^ (t + 1) = 2 * 2 ^ t := by rw [Nat.pow_succ, Nat.mul_comm]
  obtain ⟨c, hc⟩ := Nat.dvd_of_mod_eq_zero hm
  have hpos : pos = 2 ^ t * (2 * (c - q - 1) + 1) ∧ q + 1 ≤ c := by
    have hcq : q + 1 ≤ c := by
      rcases Nat.lt_or_ge q c with hh | hh
      · exact hh
      · have : 2 ^ (t + 1) * c ≤ 2 ^ (t + 1) * q := Nat.mul_le_mul_left _ hh
        have e2 : left = 2 ^ (t + 1) * q + 2 ^ t := by rw [hl, e1, Nat.mul_add, Nat.mul_one, ← Nat.mul_assoc, Nat.mul_comm (2 ^ t) 2]
        omega
    refine ⟨?_, hcq⟩
    obtain ⟨d, rfl⟩ : ∃ d, c = q + 1 + d := ⟨c - (q + 1), by omega⟩
    have e2 : left = 2 ^ (t + 1) * q + 2 ^ t := by rw [hl, e1, Nat.mul_add, Nat.mul_one, ← Nat.mul_assoc, Nat.mul_comm (2 ^ t) 2]
    rw [show q + 1 + d - q - 1 = d by omega, Nat.mul_add, Nat.mul_one, ← Nat.mul_assoc, Nat.mul_comm (2 ^ t) 2, ← e1]
    have e3 : 2 ^ (t + 1) * (q + 1 + d) = 2 ^ (t + 1) * q + 2 ^ (t + 1) + 2 ^ (t + 1) * d := by rw [Nat.mul_add, Nat.mul_add, Nat.mul_one]
    omega
  have hmod : pos % 2 ^ t = 0 := by rw [hpos.1]; exact Nat.mul_mod_right _ _
  have hmod2 : pos % 2 ^ (t + 1) ≠ 0 := by
    rw [hpos.1, e1, Nat.mul_comm 2 (2 ^ t), Nat.mul_mod_mul_left]
    have : (2 * (c - q - 1) + 1) % 2 = 1 := by omega
    rw [this]; omega
  have hg := pcs_cons 64 0 pos e t (by omega) he hmod (by omega) (.inl hmod2)
  rw [Nat.zero_add] at hg
  refine ⟨hg, hb.1, ⟨hD, by omega, ?_, by omega, ?_⟩, hb.2⟩
  · rw [show pos + 2 ^ t + (left - 2 ^ t) = pos + left by omega]; exact h2
  · rw [show pos + 2 ^ t + (left - 2 ^ t) = pos + left by omega]; exact h4
/-- What the loop over the right mask keeps. -/
def RightOk (pos right e : Nat) : Prop := ∃ D, right < 2 ^ D ∧ pos % 2 ^ D = 0 ∧ pos + right = e
theorem right_start {D pos e : Nat} (h : LeftOk D pos 0 e) : RightOk pos (e - pos) e := by
  obtain ⟨_, _, h2, h3, h4⟩ := h
  exact ⟨D, by simpa using h4, by simpa using h2, by omega⟩
theorem right_step {pos right e : Nat} (h : RightOk pos right e) (he : e < 18446744073709551616) (h0 : right ≠ 0) :
    pieces pos e = (bitLen right - 1, pos / 2 ^ (bitLen right - 1)) :: pieces (pos + 2 ^ (bitLen right - 1)) e ∧ right ^^^ 2 ^ (bitLen right - 1) = right - 2 ^ (bitLen right - 1) ∧
    RightOk (pos + 2 ^ (bitLen right - 1)) (right - 2 ^ (bitLen right - 1)) e ∧ 2 ^ (bitLen right - 1) ≤ right := by
  obtain ⟨D, h1, h2, h3⟩ := h
  obtain ⟨t1, t2, t3⟩ := top_bit right h0
  have hb := xor_bit _ right t1
  have hbl := blen_pos h0
  generalize hL : bitLen right = bl at *
  obtain ⟨t, rfl⟩ : ∃ t, bl = t + 1 := ⟨bl - 1, by omega⟩
  rw [show t + 1 - 1 = t by omega] at *
  have htD : t < D := by
    rcases Nat.lt_or_ge t D with h | h
    · exact h
    · have := Nat.pow_le_pow_right (n := 2) (by omega) h
      omega
  have hm : pos % 2 ^ t = 0 := by
    have hd : 2 ^ t ∣ 2 ^ D := Nat.pow_dvd_pow 2 (by omega)
    have := Nat.mod_mod_of_dvd pos hd
    rw [h2] at this
    simpa using this.symm
  have hp := Nat.two_pow_pos t
  have hg := pcs_cons 64 0 pos e t (by omega) he hm (by omega) (.inr (by omega))
  rw [Nat.zero_add] at hg
  have e1 : 2 ^ (t + 1) = 2 * 2 ^ t := by rw [Nat.pow_succ, Nat.mul_comm]
  refine ⟨hg, hb.1, ⟨t, by omega, ?_, by omega⟩, hb.2⟩
  rw [Nat.add_mod_right]; exact hm
end Go.Proofs.YtpdmmmcelkinjaaFmt.Pl
/- Plain facts on the pieces of a range, step by step from the left. -/
open Go
namespace Go.Proofs.YtpdmmmcelkinjaaFmt.Pl
/-- What the greedy choice is. -/
def Greedy (b e l : Nat) : Prop := b % 2 ^ l = 0 ∧ 2 ^ l ≤ e - b ∧ (b % 2 ^ (l + 1) ≠ 0 ∨ e - b < 2 ^ (l + 1))
theorem greedy_ex {b e : Nat} (h : b < e) : ∃ l, Greedy b e l := by
  false_or_by_contra
  rename_i hn
  have all : ∀ l, b % 2 ^ l = 0 ∧ 2 ^ l ≤ e - b := by
    intro l
    induction l with
    | zero => simp [Nat.mod_one]; omega
    | succ l ih =>
      refine ⟨?_, ?_⟩
      · false_or_by_contra
        rename_i hc
        exact hn ⟨l, ih.1, ih.2, .inl hc⟩
      · rcases Nat.lt_or_ge (e - b) (2 ^ (l + 1)) with hc | hc
        · exact absurd ⟨l, ih.1, ih.2, .inr hc⟩ hn
        · exact hc
  have := (all (e - b)).2
  have := Nat.lt_two_pow_self (n := e - b)
  omega
theorem pieces_step {b e : Nat} (h : b < e) (he : e < 18446744073709551616) : ∃ l, l ≤ 63 ∧ Greedy b e l ∧ pieces b e = (l, b / 2 ^ l) :: pieces (b + 2 ^ l) e ∧ b / 2 ^ l * 2 ^ l = b ∧ b + 2 ^ l ≤ e := by
  obtain ⟨l, hg⟩ := greedy_ex h
  have hk := pcs_cons 64 0 b e l h he hg.1 hg.2.1 hg.2.2
  rw [Nat.zero_add] at hk
  refine ⟨l, ?_, hg, hk, Nat.div_mul_cancel (Nat.dvd_of_mod_eq_zero hg.1), by have := hg.2.1; omega⟩
  rcases Nat.lt_or_ge 63 l with hc | hc
  · have h1 := Nat.pow_le_pow_right (n := 2) (by omega) (show 64 ≤ l by omega)
    have h2 := hg.2.1
    omega
  · exact hc
end Go.Proofs.YtpdmmmcelkinjaaFmt.Pl
/- The hash function in plain numbers. -/
namespace Go.Proofs.YtpdmmmcelkinjaaFmt.Pl
/-- The number of the first two bytes. -/
def num : List Nat → Nat
  | [] => 0
  | [a] => a
  | a :: b :: _ => a * 256 + b
def two (n : Nat) : List Nat := [n % 65521 / 256, n % 65521 % 256]
/-- A hash function's three numbers. -/
structure HF where
  A : Nat
  B : Nat
  C : Nat
def HF.ok (h : HF) : Prop := h.A < 4294967296 ∧ h.B < 4294967296 ∧ h.C < 4294967296
def HF.hc (h : HF) (l r : List Nat) : List Nat := two (h.A * num l + h.B * num r + h.C)
def Bytes (l : List Nat) : Prop := ∀ x ∈ l, x < 256
theorem two_bytes (n : Nat) : Bytes (two n) := by
  intro x hx
  simp [two] at hx
  have := Nat.mod_lt n (show 65521 > 0 by decide)
  generalize n % 65521 = m at *
  rcases hx with rfl | rfl <;> omega
theorem hc_bytes (h : HF) (l r : List Nat) : Bytes (h.hc l r) := two_bytes _
theorem hc_len (h : HF) (l r : List Nat) : (h.hc l r).length = 2 := rfl
theorem num_lt {l : List Nat} (h : Bytes l) : num l < 65536 := by
  match l, h with
  | [], _ => simp [num]
  | [a], h => have := h a (by simp); simp [num]; omega
  | a :: b :: _, h => have := h a (by simp); have := h b (by simp); simp [num]; omega
theorem num_step (l : List Nat) (k : Nat) (h2 : k < 2) (h : k < l.length) : num (l.take (k + 1)) = num (l.take k) * 256 + l[k] := by
  match l, k, h, h2 with
  | a :: l, 0, _, _ => simp [num]
  | a :: b :: l, 1, _, _ => simp [num]
theorem num_end (l : List Nat) (k : Nat) (hk : k ≤ l.length) (h : ¬ (k < 2 ∧ k < l.length)) : num (l.take k) = num l := by
  match l, k, hk, h with
  | [], 0, _, _ => rfl
  | a :: l, 0, _, h => simp at h
  | [a], 1, _, _ => rfl
  | a :: b :: l, 1, _, h => simp at h
  | a :: b :: l, k + 2, _, _ => simp [num]
theorem take_bytes {l : List Nat} (h : Bytes l) (k : Nat) : Bytes (l.take k) := fun x hx => h x (List.mem_of_mem_take hx)
theorem hc_lt {h : HF} (ok : h.ok) {l r : List Nat} (hl : Bytes l) (hr : Bytes r) :
    h.A * num l ≤ 281474976645120 ∧ h.B * num r ≤ 281474976645120 ∧ h.C < 4294967296 := by
  obtain ⟨h1, h2, h3⟩ := ok
  have n1 := num_lt hl
  have n2 := num_lt hr
  have m1 := Nat.mul_le_mul (show h.A ≤ 4294967295 by omega) (show num l ≤ 65535 by omega)
  have m2 := Nat.mul_le_mul (show h.B ≤ 4294967295 by omega) (show num r ≤ 65535 by omega)
  refine ⟨by omega, by omega, h3⟩
end Go.Proofs.YtpdmmmcelkinjaaFmt.Pl
