/- What compact.RangeNodes appends: the fewest perfect trees, from the left to the right. -/
import Derived.Test.YtobnmgnnidhfkaaFmtTz
import Derived.Test.YtobnmgnnidhfkaaFmtPlain
import Derived.Test.YtobnmgnnidhfkaaFmtNode
import Derived.Test.YtobnmgnnidhfkaaFmtPieces
import Derived.Maps.AppendAt
import Derived.Deep.Onto
import Derived.Outline
import Derived.BigRegion
import Derived.BigQuiet
import Derived.Deep.QuietTactic
import Derived.IntWalk
namespace Go.Proofs.YtobnmgnnidhfkaaFmt
open Go.ChangeShapes Go.WideShapes Go.ChangeAt Go.RowKit

theorem idInfo : (Tryf.prog.info? 60).map (fun i => (i.zero, i.size, i.bytes)) = some (some (.agg #[.int .u64 0, .int .u64 0]), 2, 16) := by kernel_rfl

/-- A slice that was the caller's own, appended to: it owns the elder cells and the new ones; beside its own block nothing that was there has turned. -/
structure Grew (w w' : World) (base : Nat) (t : TypeId) (v v' : Value) (n : Nat) (xs : List Value) : Prop where
  own : w'.ownsRow base t 2 v' n xs
  grown : w.grownBy w' v.ownBlock
  at_ : v'.ownBlock = v.ownBlock ∨ ∃ g, v'.ownBlock = some g ∧ w.heap.size ≤ g
theorem Grew.start {w : World} {base : Nat} {t : TypeId} {v : Value} {n : Nat} {xs : List Value} (h : w.ownsRow base t 2 v n xs) : Grew w w base t v v n xs := ⟨h, World.grownBy.refl _ _, .inl rfl⟩
theorem Grew.alloc {w w' : World} {base : Nat} {t : TypeId} {v v' : Value} {n : Nat} {xs : List Value} (h : Grew w w' base t v v' n xs) (o : Obj) : Grew w (w'.alloc o) base t v v' n xs :=
  ⟨h.own.alloc o, h.grown.trans (World.grownBy_alloc _ _ _), h.at_⟩
theorem Grew.next {w w' w2 : World} {base : Nat} {t : TypeId} {v v' v2 : Value} {n m : Nat} {xs ys : List Value} (h : Grew w w' base t v v' n xs) (hown : w2.ownsRow base t 2 v2 m ys) (hg : w'.grownBy w2 v'.ownBlock)
    (ha : v2.ownBlock = v'.ownBlock ∨ v2.ownBlock = some w'.heap.size) : Grew w w2 base t v v2 m ys := by
  have hs := h.grown.size
  refine ⟨hown, ⟨hg.os.trans h.grown.os, hg.tape.trans h.grown.tape, hg.output.trans h.grown.output, Nat.le_trans hs hg.size, fun k hk hne => ?_⟩, ?_⟩
  · rw [hg.block k (by omega) ?_, h.grown.block k hk hne]
    rcases h.at_ with e | ⟨g, e, hge⟩
    · rw [e]; exact hne
    · rw [e]; intro hc; injection hc with hc; omega
  · rcases ha with e | e
    · rw [e]; exact h.at_
    · exact .inr ⟨_, e, hs⟩
theorem Grew.drewN {w w' : World} {base : Nat} {t : TypeId} {v v' : Value} {n : Nat} {xs : List Value} (h : Grew w w' base t v v' n xs) (k : Nat) : Grew w (w'.drewN k) base t v v' n xs :=
  ⟨h.own, ⟨h.grown.os, h.grown.tape, h.grown.output, h.grown.size, h.grown.block⟩, h.at_⟩
def RetGrew (w : World) (base : Nat) (t : TypeId) (v : Value) (n : Nat) (xs : List Value) (e : Ending) (w' : World) : Prop := ∃ v', e = .returned v' ∧ Grew w w' base t v v' n xs
theorem room1 {n m : Nat} (h : Room n) (hm : m ≤ 128) : n + m + 1 ≤ maxLen := by unfold Room at h; unfold maxLen; omega
theorem room2 {n m : Nat} (h : Room n) (hm : m ≤ 128) : (n + m + 1) * 16 ≤ 140737488355328 := by unfold Room at h; omega

structure LRel (P0 : List (Nat × Nat)) (s D e pos l : Nat) (L : List (Nat × Nat)) : Prop where
  ok : Pl.LeftOk D pos l e
  eq : L ++ Pl.pieces pos e = P0
  sum : pos + l = s
theorem pow_w64 (k : Nat) (h : k < 64) : IntKind.u64.wrap ((2 : Int) ^ k) = (2 : Int) ^ k := (pow_wrap k (by omega)).1
set_option maxHeartbeats 2000000 in
theorem rangeNodes_c (b e : Nat) (hle : b ≤ e) (he : e < 18446744073709551616) (base : Nat) (v : Value) (n : Nat) (xs : List Value) (w : World) (hT : Tab w) (hown0 : w.ownsRow base 60 2 v n xs) (hbase : base ≤ w.heap.size)
    (hbt : v.ownBlock ≠ some 1) (hroom : Room n) :
    Calls Tryf.prog 65 #[.int .u64 b, .int .u64 e, v] w (RetGrew w base 60 v (n + (Pl.pieces b e).length) (xs ++ nodeCells (Pl.pieces b e))) := by
  obtain ⟨i0, hi, hz0, hz1, hz2⟩ := info_parts idInfo
  have HD : Hid (∀ w : World, Calls Tryf.prog 73 #[.int .u64 b, .int .u64 e] w fun r w' => r = .returned (.tuple #[.int .u64 (Pl.decL b e), .int .u64 (Pl.decR b e)]) ∧ w = w') := dec_c b e hle he
  obtain ⟨D, hok, hr⟩ := Pl.left_start b e hle he
  have hlen := Pl.pieces_len b e he
  have HE : Hid (e < 18446744073709551616) := he
  have HT : Hid (Tab w) := hT
  obtain ⟨P0, hP⟩ : ∃ P, P = Pl.pieces b e := ⟨_, rfl⟩
  have HP : Hid (P0 = Pl.pieces b e) := hP
  rw [← hP] at hlen ⊢
  clear hP
  obtain ⟨l0, hl0⟩ : ∃ l, l = Pl.decL b e := ⟨_, rfl⟩
  obtain ⟨r0, hr0⟩ : ∃ r, r = Pl.decR b e := ⟨_, rfl⟩
  rw [← hl0, ← hr0] at HD
  rw [← hl0] at hok
  have HR : Hid (r0 = e - (b + l0)) := by rw [hl0, hr0]; exact hr
  have HO : Hid (Pl.LeftOk D b l0 e) := hok
  clear he hok hT hr hl0 hr0
  go_enter Tryf.func65, Tryf.ntmps65
  go_wp2_with fail
  refine (HD.out _).mono ?_; rintro e' w' ⟨rfl, rfl⟩
  go_wp2_with fail
  have hTG : Hid (∀ {wr : World} {vr : Value} {k : Nat} {ys : List Value}, Grew w wr base 60 v vr k ys → Tab wr) := fun h => HT.out.grown h.grown hbt
  go_loopw [2, 7, 9] (fun vr lv pv wr => ∃ l pos L, lv = .int .u64 (l : Nat) ∧ pv = .int .u64 (pos : Nat) ∧ LRel P0 (b + l0) D e pos l L ∧ Grew w wr base 60 v vr (n + L.length) (xs ++ nodeCells L)) (fun _ lv _ _ => (intOf lv).toNat)
  case atStart => exact ⟨l0, b, [], rfl, rfl, ⟨HO.out, by simpa using HP.out.symm, rfl⟩, by simpa [nodeCells] using Grew.start hown0⟩
  case round =>
    obtain ⟨l, pos, L, rfl, rfl, hL, hG⟩ := hrel
    have hLl : L.length ≤ 128 := by have := congrArg List.length hL.eq; rw [List.length_append] at this; omega
    have hlt64 : l < 18446744073709551616 := by obtain ⟨_, _, _, h, _⟩ := hL.ok; have := HE.out; omega
    by_cases hl : l = 0
    · have hne : ((l : Int) != 0) = false := by simp [hl]
      have hR0 : Pl.RightOk pos r0 e := by
        have h1 := Pl.right_start (hl ▸ hL.ok)
        have h2 := HR.out
        have h3 := hL.sum
        rwa [show e - pos = r0 by omega] at h1
      have HL : Hid (L ++ Pl.pieces pos e = P0) := hL.eq
      clear hL hl hlt64
      go_wp2_with fail
      go_loopw [2, 8, 9] (fun vr rv pv wr => ∃ r pos L, rv = .int .u64 (r : Nat) ∧ pv = .int .u64 (pos : Nat) ∧ Hid (Pl.RightOk pos r e ∧ L ++ Pl.pieces pos e = P0) ∧ Grew w wr base 60 v vr (n + L.length) (xs ++ nodeCells L)) (fun _ rv _ _ => (intOf rv).toNat)
      case atStart => exact ⟨r0, pos, L, rfl, rfl, ⟨hR0, HL.out⟩, hG⟩
      case round =>
        obtain ⟨r, pos, L, rfl, rfl, HK, hG⟩ := hrel
        have hLl : L.length ≤ 128 := by have := congrArg List.length HK.out.2; rw [List.length_append] at this; omega
        have hr64 : r < 18446744073709551616 := by obtain ⟨_, _, _, h⟩ := HK.out.1; have := HE.out; omega
        by_cases hr : r = 0
        · subst hr
          have hpos : pos = e := by obtain ⟨_, _, _, h⟩ := HK.out.1; omega
          have hfin : L = P0 := by have := HK.out.2; rwa [hpos, show Pl.pieces e e = [] from Pl.pcs_nil _ _ _ _ (Nat.le_refl _), List.append_nil] at this
          subst hfin
          go_wp2_with fail
          go_ret
          exact ⟨_, rfl, hG⟩
        · obtain ⟨s1, s2, s3, s4⟩ := Pl.right_step HK.out.1 HE.out hr
          have hLen := len_c r hr64 wr
          have hb1 := Pl.blen_pos hr
          have hb2 := Pl.blen_le (k := 64) (n := r) (by omega)
          obtain ⟨t, ht⟩ : ∃ t, bitLen r = t + 1 := ⟨bitLen r - 1, by omega⟩
          rw [ht] at hLen s1 s2 s3 s4 hb2
          rw [show t + 1 - 1 = t by omega] at s1 s2 s3 s4
          obtain ⟨q1, hq1⟩ : ∃ q1, q1 = pos / 2 ^ t := ⟨_, rfl⟩
          have HN : Hid (Pl.RightOk (pos + 2 ^ t) (r - 2 ^ t) e ∧ (L ++ [(t, q1)]) ++ Pl.pieces (pos + 2 ^ t) e = P0) := ⟨s3, by rw [← HK.out.2, s1, hq1]; simp⟩
          have hp := Nat.two_pow_pos t
          have e1 : (pos : Int) / 2 ^ t = (q1 : Int) := by rw [hq1]; simp
          have e2 : bits .xor .u64 (r : Int) ((2 : Int) ^ t) = ((r - 2 ^ t : Nat) : Int) := by
            rw [← s2]
            have h := u64_xor_nat r (2 ^ t) hr64 (by omega)
            simpa using h
          have e3 := pow_w64 t (by omega)
          have e4 : IntKind.u64.wrap ((pos : Int) + (2 : Int) ^ t) = ((pos + 2 ^ t : Nat) : Int) := by
            have h : pos + 2 ^ t < 18446744073709551616 := by obtain ⟨_, _, _, h⟩ := HK.out.1; have := HE.out; omega
            have := wrapN _ h
            simpa using this
          have e5 : IntKind.u64.wrap (t : Int) = (t : Int) := wrapN t (by omega)
          have e6 : IntKind.u64.wrap ((t + 1 : Nat) : Int) = (t : Int) + 1 := by rw [wrapN _ (by omega)]; simp
          have e7 : IntKind.u64.wrap ((t : Int) + 1) = (t : Int) + 1 := by have := e6; simpa using this
          have hne : ((r : Int) != 0) = true := by simp; omega
          have hmin : min t 64 = t := by omega
          have hlt : r - 2 ^ t < r := by omega
          have ht64 : t < 64 := by omega
          generalize r - 2 ^ t = r' at HN e2 hlt
          generalize pos + 2 ^ t = pos' at HN e4
          clear s1 s2 s3 s4 hq1 hr hp hr64 HK ht hb1 hb2
          go_wp2_with (first | (go_at_call 59; refine hLen.mono ?_; rintro e w' ⟨rfl, rfl⟩) | (go_at_call 60; refine (newNode_c _ _ _).mono ?_; rintro e w' ⟨rfl, rfl⟩) | (at_builtin; refine wpList_append_own_at _ rfl (.tmp 56) (.tmp 62) 59 rfl base 60 i0 (.agg #[.int .u64 0, .int .u64 0]) 2 16 Tryf.underlying59 hi hz0 hz1 hz2 rfl (by decide) _ _ _ rfl ((hG.own.alloc _).alloc _) ⟨wr.heap.size + 1, 0, none⟩ 1 1 [.int .u64 t, .int .u64 q1] rfl rfl (by have := World.news_of_block (heap_alloc_new (wr.alloc (.cells #[.int .u64 t, .int .u64 q1] 60)) (.cells #[.int .u64 t, .int .u64 q1] 60)); simpa using this) (by simp [Value.oneCell']) (room1 hroom hLl) (room2 hroom hLl) (by have := hG.grown.size; simp; omega) ?_; intro v' w1 hown' hgrow _ hat))
          go_roundw
          case rel => exact ⟨r', pos', L ++ [(t, q1)], rfl, rfl, HN, by
            have := ((hG.alloc _).alloc _).next hown' hgrow hat
            simpa [nodeCells, Nat.add_assoc] using this⟩
          case measure => simp [intOf]; omega
    · obtain ⟨q, hq, ht⟩ := ctz_odd l hl hlt64
      have hTz := tz_c l hl hlt64 wr (hTG.out hG)
      generalize Lib.ctz 64 l = t at hq ht hTz
      obtain ⟨s1, s2, s3, s4⟩ := Pl.left_step hL.ok HE.out hq
      obtain ⟨q1, hq1⟩ : ∃ q1, q1 = pos / 2 ^ t := ⟨_, rfl⟩
      have HN : LRel P0 (b + l0) D e (pos + 2 ^ t) (l - 2 ^ t) (L ++ [(t, q1)]) := ⟨s3, by rw [← hL.eq, s1, hq1]; simp, by have := hL.sum; omega⟩
      have hp := Nat.two_pow_pos t
      have e1 : (pos : Int) / 2 ^ t = (q1 : Int) := by rw [hq1]; simp
      have e2 : bits .xor .u64 (l : Int) ((2 : Int) ^ t) = ((l - 2 ^ t : Nat) : Int) := by
        rw [← s2]
        have h := u64_xor_nat l (2 ^ t) hlt64 (by omega)
        simpa using h
      have e3 := pow_w64 t ht
      have e4 : IntKind.u64.wrap ((pos : Int) + (2 : Int) ^ t) = ((pos + 2 ^ t : Nat) : Int) := by
        have h : pos + 2 ^ t < 18446744073709551616 := by obtain ⟨_, _, _, h, _⟩ := hL.ok; have := HE.out; omega
        have := wrapN _ h
        simpa using this
      have e5 : IntKind.u64.wrap (t : Int) = (t : Int) := wrapN t (by omega)
      have hne : ((l : Int) != 0) = true := by simp; omega
      have hmin : min t 64 = t := by omega
      have hlt : l - 2 ^ t < l := by omega
      generalize l - 2 ^ t = l' at HN e2 hlt
      generalize pos + 2 ^ t = pos' at HN e4
      clear hL hq s1 s2 s3 s4 hq1 hl hp hlt64
      have hL : L.length ≤ 128 := hLl
      go_wp2_with (first | (go_at_call 53; refine hTz.mono ?_; rintro e w' ⟨rfl, rfl⟩) | (go_at_call 60; refine (newNode_c _ _ _).mono ?_; rintro e w' ⟨rfl, rfl⟩) | (at_builtin; refine wpList_append_own_at _ rfl (.tmp 34) (.tmp 40) 59 rfl base 60 i0 (.agg #[.int .u64 0, .int .u64 0]) 2 16 Tryf.underlying59 hi hz0 hz1 hz2 rfl (by decide) _ _ _ rfl ((hG.own.alloc _).alloc _) ⟨wr.heap.size + 1, 0, none⟩ 1 1 [.int .u64 t, .int .u64 q1] rfl rfl (by have := World.news_of_block (heap_alloc_new (wr.alloc (.cells #[.int .u64 t, .int .u64 q1] 60)) (.cells #[.int .u64 t, .int .u64 q1] 60)); simpa using this) (by simp [Value.oneCell']) (room1 hroom hL) (room2 hroom hL) (by have := hG.grown.size; simp; omega) ?_; intro v' w1 hown' hgrow _ hat))
      go_roundw
      case rel => exact ⟨l', pos', L ++ [(t, q1)], rfl, rfl, HN, by
        have := ((hG.alloc _).alloc _).next hown' hgrow hat
        simpa [nodeCells, Nat.add_assoc] using this⟩
      case measure => simp [intOf]; omega
end Go.Proofs.YtobnmgnnidhfkaaFmt
/- What proof.reverse does to the end of a list of nodes. -/
namespace Go.Proofs.YtobnmgnnidhfkaaFmt
open Go.ChangeShapes Go.WideShapes Go.ChangeAt Go.RowKit

namespace Pl
/-- How far a reversal of the last n entries has come behind k rounds. -/
def RevAt (L X : List (Nat × Nat)) (off n k : Nat) : Prop :=
  X.length = L.length ∧ (∀ i, i < off → X[i]? = L[i]?) ∧ ∀ i, i < n → X[off + i]? = if i < k ∨ n ≤ i + k then L[off + (n - 1 - i)]? else L[off + i]?
theorem RevAt.start (L : List (Nat × Nat)) (off n : Nat) : RevAt L L off n 0 := ⟨rfl, fun _ _ => rfl, fun i hi => by rw [if_neg (by omega)]⟩
theorem RevAt.step {L X : List (Nat × Nat)} {off n k : Nat} (h : RevAt L X off n k) (hL : off + n = L.length) (hk : k + k + 1 < n) {p q : Nat × Nat} (hp : X[off + k]? = some p) (hq : X[off + (n - 1 - k)]? = some q) :
    RevAt L ((X.set (off + k) q).set (off + (n - 1 - k)) p) off n (k + 1) := by
  obtain ⟨h1, h2, h3⟩ := h
  refine ⟨by simpa using h1, fun i hi => ?_, fun i hi => ?_⟩
  · rw [List.getElem?_set_ne (by omega), List.getElem?_set_ne (by omega), h2 i hi]
  · have a1 := h3 k (by omega)
    have a2 := h3 (n - 1 - k) (by omega)
    rw [if_neg (by omega)] at a1 a2
    by_cases e1 : i = n - 1 - k
    · subst e1
      rw [List.getElem?_set_self (by simp; omega), if_pos (by omega), ← hp, a1]
      congr 1; omega
    · rw [List.getElem?_set_ne (by omega)]
      by_cases e2 : i = k
      · subst e2
        rw [List.getElem?_set_self (by omega), if_pos (by omega), ← hq, a2]
      · rw [List.getElem?_set_ne (by omega), h3 i hi]
        by_cases e3 : i < k ∨ n ≤ i + k
        · rw [if_pos e3, if_pos (by omega)]
        · rw [if_neg e3, if_neg (by omega)]
theorem RevAt.done {L X : List (Nat × Nat)} {off n k : Nat} (h : RevAt L X off n k) (hL : off + n = L.length) (hk : n ≤ k + k + 1) : X = L.take off ++ (L.drop off).reverse := by
  obtain ⟨h1, h2, h3⟩ := h
  apply List.ext_getElem?
  intro j
  by_cases hj : j < off
  · rw [h2 j hj, List.getElem?_append_left (by simp; omega), List.getElem?_take_of_lt hj]
  · have ht : (L.take off).length = off := by simp; omega
    rw [List.getElem?_append_right (by omega), ht]
    by_cases hn : j < off + n
    · obtain ⟨i, rfl⟩ : ∃ i, j = off + i := ⟨j - off, by omega⟩
      rw [h3 i (by omega), Nat.add_sub_cancel_left, List.getElem?_reverse (by simp; omega), List.getElem?_drop]
      by_cases e : i < k ∨ n ≤ i + k
      · rw [if_pos e]; congr 1; simp; omega
      · rw [if_neg e]; congr 1; simp; omega
    · rw [List.getElem?_eq_none (by omega), List.getElem?_eq_none (by simp; omega)]
theorem nodeCells_set (X : List (Nat × Nat)) : ∀ (i : Nat) (p : Nat × Nat), ((nodeCells X).set (i * 2) (.int .u64 p.1)).set (i * 2 + 1) (.int .u64 p.2) = nodeCells (X.set i p) := by
  induction X with
  | nil => intro i p; rfl
  | cons x X ih =>
    intro i p
    cases i with
    | zero => rfl
    | succ i =>
      have := ih i p
      unfold nodeCells at this ⊢
      rw [List.flatMap_cons, List.set_cons_succ, List.flatMap_cons, ← this]
      simp [Nat.succ_mul]
end Pl
open Pl

/-- Without entries nothing is done. -/
theorem reverse_0 (A : Option Addr) (c : Nat) (w : World) : Calls Tryf.prog 66 #[.slice A 0 c] w fun e w' => e = .returned (.tuple #[]) ∧ w = w' := by
  go_enter Tryf.func66, Tryf.ntmps66
  go_wp2_with fail
  go_loopw [2, 3] (fun iv jv wr => iv = .int .i64 0 ∧ jv = .int .i64 (-1) ∧ wr = w) (fun _ _ _ => 0)
  case atStart => exact ⟨rfl, rfl, rfl⟩
  case round =>
    obtain ⟨rfl, rfl, rfl⟩ := hrel
    go_wp2_with fail
    go_end0
    exact ⟨rfl, rfl⟩
set_option maxHeartbeats 2000000 in
theorem reverse_c (base g cap off n : Nat) (L : List (Nat × Nat)) (w : World) (hown : w.ownsRow base 60 2 (.slice (some ⟨g, 0, none⟩) L.length cap) L.length (nodeCells L)) (hL : off + n = L.length) (c : Nat) (hcap : c + off = cap) (hn : 0 < n) (hroom : Room L.length) :
    Calls Tryf.prog 66 #[.slice (some ⟨g, off * 2, none⟩) n c] w fun e w' => e = .returned (.tuple #[]) ∧ w'.ownsRow base 60 2 (.slice (some ⟨g, 0, none⟩) L.length cap) L.length (nodeCells (L.take off ++ (L.drop off).reverse)) ∧ w.grownBy w' (some g) := by
  have hr32 : L.length ≤ 4294967296 := hroom
  go_enter Tryf.func66, Tryf.ntmps66
  go_wp2_with fail
  go_loopw [2, 3] (fun iv jv wr => ∃ (k m : Nat) (X : List (Nat × Nat)), k + m + 1 = n ∧ k ≤ m + 1 ∧ iv = .int .i64 k ∧ jv = .int .i64 m ∧ Hid (RevAt L X off n k) ∧ Hid (wr.ownsRow base 60 2 (.slice (some ⟨g, 0, none⟩) L.length cap) L.length (nodeCells X)) ∧ w.grownBy wr (some g)) (fun iv _ _ => n - (intOf iv).toNat)
  case atStart => exact ⟨0, n - 1, L, by omega, by omega, rfl, by go_num, RevAt.start L off n, hown, World.grownBy.refl _ _⟩
  case round =>
    obtain ⟨k, m, X, hkm, hkm2, rfl, rfl, HR, HO, hG⟩ := hrel
    have hX : X.length = L.length := HR.out.1
    by_cases hlt : k < m
    · have hk1 : (k : Int) < (m : Int) := by omega
      have hk2 : (k : Int) < (n : Int) := by omega
      have hk3 : (m : Int) < (n : Int) := by omega
      obtain ⟨p, hp⟩ : ∃ p, X[off + k]? = some p := ⟨_, List.getElem?_eq_getElem (by omega)⟩
      obtain ⟨q, hq⟩ : ∃ q, X[off + m]? = some q := ⟨_, List.getElem?_eq_getElem (by omega)⟩
      have hp' : X[off + k]'(by omega) = p := by rw [List.getElem?_eq_getElem (by omega)] at hp; simpa using hp
      have hq' : X[off + m]'(by omega) = q := by rw [List.getElem?_eq_getElem (by omega)] at hq; simpa using hq
      have cp := nodeCells_at X (off + k) (by omega)
      have cq := nodeCells_at X (off + m) (by omega)
      rw [hp'] at cp
      rw [hq'] at cq
      have c1 : wr.cell? ⟨g, off * 2 + k * 2, none⟩ = some (.int .u64 p.1) := by rw [HO.out.cellAt _ (by omega), ← cp.1]; congr 1; omega
      have c2 : wr.cell? ⟨g, off * 2 + k * 2 + 1, none⟩ = some (.int .u64 p.2) := by rw [HO.out.cellAt _ (by omega), ← cp.2]; congr 1; omega
      have d1 : wr.cell? ⟨g, off * 2 + m * 2, none⟩ = some (.int .u64 q.1) := by rw [HO.out.cellAt _ (by omega), ← cq.1]; congr 1; omega
      have d2 : wr.cell? ⟨g, off * 2 + m * 2 + 1, none⟩ = some (.int .u64 q.2) := by rw [HO.out.cellAt _ (by omega), ← cq.2]; congr 1; omega
      have f1 := HO.out.frozenAt (off * 2 + k * 2)
      have f2 := HO.out.frozenAt (off * 2 + k * 2 + 1)
      have f3 := HO.out.frozenAt (off * 2 + m * 2)
      have f4 := HO.out.frozenAt (off * 2 + m * 2 + 1)
      have HN : Hid (RevAt L ((X.set (off + k) q).set (off + m) p) off n (k + 1)) := by
        have := HR.out.step hL (k := k) (by omega) hp (by rw [show n - 1 - k = m by omega]; exact hq)
        rwa [show n - 1 - k = m by omega] at this
      have HE1 : Hid (nodeCells ((X.set (off + k) q).set (off + m) p) = (((((nodeCells X).set ((off + k) * 2) (.int .u64 q.1)).set ((off + k) * 2 + 1) (.int .u64 q.2)).set ((off + m) * 2) (.int .u64 p.1)).set ((off + m) * 2 + 1) (.int .u64 p.2))) := by
        show _ = _
        rw [nodeCells_set, nodeCells_set]
      clear cp cq hp hq hp' hq' HR
      obtain ⟨p1, p2⟩ := p
      obtain ⟨q1, q2⟩ := q
      simp only [] at c1 c2 d1 d2
      go_wp2_with fail
      go_region
      have o1 := HO.out.stored (off * 2 + k * 2) (.int .u64 q1)
      have o2 := o1.1.stored (off * 2 + k * 2 + 1) (.int .u64 q2)
      have o3 := o2.1.stored (off * 2 + m * 2) (.int .u64 p1)
      have o4 := o3.1.stored (off * 2 + m * 2 + 1) (.int .u64 p2)
      have G4 : w.grownBy ((((wr.setCell ⟨g, off * 2 + k * 2, none⟩ (.int .u64 q1)).setCell ⟨g, off * 2 + k * 2 + 1, none⟩ (.int .u64 q2)).setCell ⟨g, off * 2 + m * 2, none⟩ (.int .u64 p1)).setCell ⟨g, off * 2 + m * 2 + 1, none⟩ (.int .u64 p2)) (some g) := (((hG.trans o1.2).trans o2.2).trans o3.2).trans o4.2
      have O4 : Hid (((((wr.setCell ⟨g, off * 2 + k * 2, none⟩ (.int .u64 q1)).setCell ⟨g, off * 2 + k * 2 + 1, none⟩ (.int .u64 q2)).setCell ⟨g, off * 2 + m * 2, none⟩ (.int .u64 p1)).setCell ⟨g, off * 2 + m * 2 + 1, none⟩ (.int .u64 p2)).ownsRow base 60 2 (.slice (some ⟨g, 0, none⟩) L.length cap) L.length (nodeCells ((X.set (off + k) (q1, q2)).set (off + m) (p1, p2)))) := by
        have := o4.1
        rw [show off * 2 + k * 2 = (off + k) * 2 by omega, show off * 2 + m * 2 = (off + m) * 2 by omega] at this ⊢
        rw [HE1.out]
        exact this
      have hm1 : IntKind.i64.wrap ((m : Int) - 1) = ((m - 1 : Nat) : Int) := by rw [IntWalk.i64_in _ (by omega)]; omega
      clear o1 o2 o3 o4 c1 c2 d1 d2 f1 f2 f3 f4 HE1 HO
      go_wp2_with fail
      go_roundw
      case rel => exact ⟨k + 1, m - 1, _, by omega, by omega, by go_num, rfl, HN, O4, ⟨G4.os, G4.tape, G4.output, G4.size, G4.block⟩⟩
      case measure => simp [intOf] <;> omega
    · have hk1 : ¬ (k : Int) < (m : Int) := by omega
      go_wp2_with fail
      go_end0
      exact ⟨rfl, by rw [← HR.out.done hL (by omega)]; exact HO.out, hG⟩
end Go.Proofs.YtobnmgnnidhfkaaFmt
/- The end of a list of nodes, cut off and reversed. -/
namespace Go.Proofs.YtobnmgnnidhfkaaFmt
open Go.ChangeShapes Go.WideShapes Go.ChangeAt Go.RowKit
/-- The slice that begins behind the first n1 entries. -/
def tailV (g n1 nr cap : Nat) : Value := .slice (if cap = n1 then some ⟨g, 0, none⟩ else some ⟨g, n1 * 2, none⟩) nr (cap - n1)
theorem add_plain (g o k : Nat) : (⟨g, o, none⟩ : Addr).add k = ⟨g, o + k, none⟩ := by unfold Addr.add; split <;> simp_all
theorem elemId : Tryf.prog.elem 59 = 60 := by kernel_rfl
theorem sizeId (w : World) : (sizeOf 60).run Tryf.prog w = .ok 2 w := by
  obtain ⟨i0, hi, hz0, hz1, hz2⟩ := info_parts idInfo
  simp [sizeOf, typeInfo, hi, hz1]
theorem slice_tailN (g n1 nr N cap : Nat) (h : N = n1 + nr) (W : World) :
    (Instr.slice 59 (.slice (some ⟨g, 0, none⟩) N cap) (some (.int .i64 (n1 : Int))) none none).run Tryf.prog W = .ok (tailV g n1 nr cap) W := by
  rw [run_slice_l W 59 _ _ _ (by rw [elemId]; exact Tryf.underlying59) .i64 (n1 : Int) (by omega) (by omega), elemId, sizeId]
  simp only [Result.andThen_ok, sliced, tailV, Option.map_some, add_plain, Int.toNat_natCast, Nat.zero_add]
  rw [show N - n1 = nr by omega]
theorem reverse_tail (base g n1 nr N cap : Nat) (hN : N = n1 + nr) (X P : List (Nat × Nat)) (hX : X.length = n1) (hP : P.length = nr) (w : World) (hown : w.ownsRow base 60 2 (.slice (some ⟨g, 0, none⟩) N cap) N (nodeCells (X ++ P))) (hcap : N ≤ cap) (hroom : Room N) :
    Calls Tryf.prog 66 #[tailV g n1 nr cap] w fun e w' => e = .returned (.tuple #[]) ∧ w'.ownsRow base 60 2 (.slice (some ⟨g, 0, none⟩) N cap) N (nodeCells (X ++ P.reverse)) ∧ w.grownBy w' (some g) := by
  have hl : (X ++ P).length = N := by rw [List.length_append]; omega
  by_cases h0 : nr = 0
  · subst h0
    have hP0 : P = [] := List.eq_nil_of_length_eq_zero hP
    subst hP0
    unfold tailV
    refine (reverse_0 _ _ w).mono ?_
    rintro e w' ⟨rfl, rfl⟩
    exact ⟨rfl, hown, World.grownBy.refl _ _⟩
  · unfold tailV
    rw [if_neg (by omega)]
    subst hl
    have := reverse_c base g cap n1 nr (X ++ P) w hown (by omega) (cap - n1) (by omega) (by omega) hroom
    rw [← hX, List.take_left, List.drop_left] at this
    rw [← hX]
    exact this
end Go.Proofs.YtobnmgnnidhfkaaFmt
