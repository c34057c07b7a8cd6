/- What compact.RangeNodes appends: the fewest perfect trees, from the left to the right. -/
import Derived.Test.YtniodnkejpbheaaFmtTz
import Derived.Test.YtniodnkejpbheaaFmtPlain2
import Derived.Test.YtniodnkejpbheaaFmtNode
import Derived.Test.YtniodnkejpbheaaFmtNodesOf
import Derived.Maps.AppendAt
import Derived.Deep.Onto
import Derived.Outline
namespace Go.Proofs.YtniodnkejpbheaaFmt
open Go.ChangeShapes Go.WideShapes Go.ChangeAt Go.RowKit

theorem idInfo : (Tryf.prog.info? 55).map (fun i => (i.zero, i.size, i.bytes)) = some (some (.agg #[.int .u64 0, .int .u64 0]), 2, 16) := by kernel_rfl

/-- A slice that was the caller's own, appended to: it owns the elder cells and the new ones; beside its own block nothing that was there has turned. -/
structure Grew (w w' : World) (base : Nat) (t : TypeId) (v v' : Value) (n : Nat) (xs : List Value) : Prop where
  own : w'.ownsRow base t 2 v' n xs
  grown : w.grownBy w' v.ownBlock
  at_ : v'.ownBlock = v.ownBlock ∨ ∃ g, v'.ownBlock = some g ∧ w.heap.size ≤ g
theorem Grew.start {w : World} {base : Nat} {t : TypeId} {v : Value} {n : Nat} {xs : List Value} (h : w.ownsRow base t 2 v n xs) : Grew w w base t v v n xs := ⟨h, World.grownBy.refl _ _, .inl rfl⟩
theorem Grew.alloc {w w' : World} {base : Nat} {t : TypeId} {v v' : Value} {n : Nat} {xs : List Value} (h : Grew w w' base t v v' n xs) (o : Obj) : Grew w (w'.alloc o) base t v v' n xs :=
  ⟨h.own.alloc o, h.grown.trans (World.grownBy_alloc _ _ _), h.at_⟩
theorem Grew.next {w w' w2 : World} {base : Nat} {t : TypeId} {v v' v2 : Value} {n m : Nat} {xs ys : List Value} (h : Grew w w' base t v v' n xs) (hown : w2.ownsRow base t 2 v2 m ys) (hg : w'.grownBy w2 v'.ownBlock)
    (ha : v2.ownBlock = v'.ownBlock ∨ v2.ownBlock = some w'.heap.size) : Grew w w2 base t v v2 m ys := by
  have hs := h.grown.size
  refine ⟨hown, ⟨hg.os.trans h.grown.os, hg.tape.trans h.grown.tape, hg.output.trans h.grown.output, Nat.le_trans hs hg.size, fun k hk hne => ?_⟩, ?_⟩
  · rw [hg.block k (by omega) ?_, h.grown.block k hk hne]
    rcases h.at_ with e | ⟨g, e, hge⟩
    · rw [e]; exact hne
    · rw [e]; intro hc; injection hc with hc; omega
  · rcases ha with e | e
    · rw [e]; exact h.at_
    · exact .inr ⟨_, e, hs⟩
theorem Grew.drewN {w w' : World} {base : Nat} {t : TypeId} {v v' : Value} {n : Nat} {xs : List Value} (h : Grew w w' base t v v' n xs) (k : Nat) : Grew w (w'.drewN k) base t v v' n xs :=
  ⟨h.own, ⟨h.grown.os, h.grown.tape, h.grown.output, h.grown.size, h.grown.block⟩, h.at_⟩
def RetGrew (w : World) (base : Nat) (t : TypeId) (v : Value) (n : Nat) (xs : List Value) (e : Ending) (w' : World) : Prop := ∃ v', e = .returned v' ∧ Grew w w' base t v v' n xs
theorem room1 {n m : Nat} (h : Room n) (hm : m ≤ 128) : n + m + 1 ≤ maxLen := by unfold Room at h; unfold maxLen; omega
theorem room2 {n m : Nat} (h : Room n) (hm : m ≤ 128) : (n + m + 1) * 16 ≤ 140737488355328 := by unfold Room at h; omega

structure LRel (P0 : List (Nat × Nat)) (s D e pos l : Nat) (L : List (Nat × Nat)) : Prop where
  ok : Pl.LeftOk D pos l e
  eq : L ++ Pl.pieces pos e = P0
  sum : pos + l = s
theorem pow_w64 (k : Nat) (h : k < 64) : IntKind.u64.wrap ((2 : Int) ^ k) = (2 : Int) ^ k := (pow_wrap k (by omega)).1
set_option maxHeartbeats 2000000 in
theorem rangeNodes_c (b e : Nat) (hle : b ≤ e) (he : e < 18446744073709551616) (base : Nat) (v : Value) (n : Nat) (xs : List Value) (w : World) (hT : Tab w) (hown0 : w.ownsRow base 55 2 v n xs) (hbase : base ≤ w.heap.size)
    (hbt : v.ownBlock ≠ some 0) (hroom : Room n) :
    Calls Tryf.prog 64 #[.int .u64 b, .int .u64 e, v] w (RetGrew w base 55 v (n + (Pl.pieces b e).length) (xs ++ nodeCells (Pl.pieces b e))) := by
  obtain ⟨i0, hi, hz0, hz1, hz2⟩ := info_parts idInfo
  have HD : Hid (∀ w : World, Calls Tryf.prog 69 #[.int .u64 b, .int .u64 e] w fun r w' => r = .returned (.tuple #[.int .u64 (Pl.decL b e), .int .u64 (Pl.decR b e)]) ∧ w = w') := dec_c b e hle he
  obtain ⟨D, hok, hr⟩ := Pl.left_start b e hle he
  have hlen := Pl.pieces_len b e he
  have HE : Hid (e < 18446744073709551616) := he
  have HT : Hid (Tab w) := hT
  obtain ⟨P0, hP⟩ : ∃ P, P = Pl.pieces b e := ⟨_, rfl⟩
  have HP : Hid (P0 = Pl.pieces b e) := hP
  rw [← hP] at hlen ⊢
  clear hP
  obtain ⟨l0, hl0⟩ : ∃ l, l = Pl.decL b e := ⟨_, rfl⟩
  obtain ⟨r0, hr0⟩ : ∃ r, r = Pl.decR b e := ⟨_, rfl⟩
  rw [← hl0, ← hr0] at HD
  rw [← hl0] at hok
  have HR : Hid (r0 = e - (b + l0)) := by rw [hl0, hr0]; exact hr
  have HO : Hid (Pl.LeftOk D b l0 e) := hok
  clear he hok hT hr hl0 hr0
  go_enter Tryf.func64, Tryf.ntmps64
  go_wp2_with fail
  refine (HD.out _).mono ?_; rintro e' w' ⟨rfl, rfl⟩
  go_wp2_with fail
  have hTG : Hid (∀ {wr : World} {vr : Value} {k : Nat} {ys : List Value}, Grew w wr base 55 v vr k ys → Tab wr) := fun h => HT.out.grown h.grown hbt
  go_loopw [2, 7, 9] (fun vr lv pv wr => ∃ l pos L, lv = .int .u64 (l : Nat) ∧ pv = .int .u64 (pos : Nat) ∧ LRel P0 (b + l0) D e pos l L ∧ Grew w wr base 55 v vr (n + L.length) (xs ++ nodeCells L)) (fun _ lv _ _ => (intOf lv).toNat)
  case atStart => exact ⟨l0, b, [], rfl, rfl, ⟨HO.out, by simpa using HP.out.symm, rfl⟩, by simpa [nodeCells] using Grew.start hown0⟩
  case round =>
    obtain ⟨l, pos, L, rfl, rfl, hL, hG⟩ := hrel
    have hLl : L.length ≤ 128 := by have := congrArg List.length hL.eq; rw [List.length_append] at this; omega
    have hlt64 : l < 18446744073709551616 := by obtain ⟨_, _, _, h, _⟩ := hL.ok; have := HE.out; omega
    by_cases hl : l = 0
    · have hne : ((l : Int) != 0) = false := by simp [hl]
      have hR0 : Pl.RightOk pos r0 e := by
        have h1 := Pl.right_start (hl ▸ hL.ok)
        have h2 := HR.out
        have h3 := hL.sum
        rwa [show e - pos = r0 by omega] at h1
      have HL : Hid (L ++ Pl.pieces pos e = P0) := hL.eq
      clear hL hl hlt64
      go_wp2_with fail
      go_loopw [2, 8, 9] (fun vr rv pv wr => ∃ r pos L, rv = .int .u64 (r : Nat) ∧ pv = .int .u64 (pos : Nat) ∧ Hid (Pl.RightOk pos r e ∧ L ++ Pl.pieces pos e = P0) ∧ Grew w wr base 55 v vr (n + L.length) (xs ++ nodeCells L)) (fun _ rv _ _ => (intOf rv).toNat)
      case atStart => exact ⟨r0, pos, L, rfl, rfl, ⟨hR0, HL.out⟩, hG⟩
      case round =>
        obtain ⟨r, pos, L, rfl, rfl, HK, hG⟩ := hrel
        have hLl : L.length ≤ 128 := by have := congrArg List.length HK.out.2; rw [List.length_append] at this; omega
        have hr64 : r < 18446744073709551616 := by obtain ⟨_, _, _, h⟩ := HK.out.1; have := HE.out; omega
        by_cases hr : r = 0
        · subst hr
          have hpos : pos = e := by obtain ⟨_, _, _, h⟩ := HK.out.1; omega
          have hfin : L = P0 := by have := HK.out.2; rwa [hpos, show Pl.pieces e e = [] from Pl.pcs_nil _ _ _ _ (Nat.le_refl _), List.append_nil] at this
          subst hfin
          go_wp2_with fail
          go_ret
          exact ⟨_, rfl, hG⟩
        · obtain ⟨s1, s2, s3, s4⟩ := Pl.right_step HK.out.1 HE.out hr
          have hLen := len_c r hr64 wr
          have hb1 := Pl.blen_pos hr
          have hb2 := Pl.blen_le (k := 64) (n := r) (by omega)
          obtain ⟨t, ht⟩ : ∃ t, bitLen r = t + 1 := ⟨bitLen r - 1, by omega⟩
          rw [ht] at hLen s1 s2 s3 s4 hb2
          rw [show t + 1 - 1 = t by omega] at s1 s2 s3 s4
          obtain ⟨q1, hq1⟩ : ∃ q1, q1 = pos / 2 ^ t := ⟨_, rfl⟩
          have HN : Hid (Pl.RightOk (pos + 2 ^ t) (r - 2 ^ t) e ∧ (L ++ [(t, q1)]) ++ Pl.pieces (pos + 2 ^ t) e = P0) := ⟨s3, by rw [← HK.out.2, s1, hq1]; simp⟩
          have hp := Nat.two_pow_pos t
          have e1 : (pos : Int) / 2 ^ t = (q1 : Int) := by rw [hq1]; simp
          have e2 : bits .xor .u64 (r : Int) ((2 : Int) ^ t) = ((r - 2 ^ t : Nat) : Int) := by
            rw [← s2]
            have h := u64_xor_nat r (2 ^ t) hr64 (by omega)
            simpa using h
          have e3 := pow_w64 t (by omega)
          have e4 : IntKind.u64.wrap ((pos : Int) + (2 : Int) ^ t) = ((pos + 2 ^ t : Nat) : Int) := by
            have h : pos + 2 ^ t < 18446744073709551616 := by obtain ⟨_, _, _, h⟩ := HK.out.1; have := HE.out; omega
            have := wrapN _ h
            simpa using this
          have e5 : IntKind.u64.wrap (t : Int) = (t : Int) := wrapN t (by omega)
          have e6 : IntKind.u64.wrap ((t + 1 : Nat) : Int) = (t : Int) + 1 := by rw [wrapN _ (by omega)]; simp
          have e7 : IntKind.u64.wrap ((t : Int) + 1) = (t : Int) + 1 := by have := e6; simpa using this
          have hne : ((r : Int) != 0) = true := by simp; omega
          have hmin : min t 64 = t := by omega
          have hlt : r - 2 ^ t < r := by omega
          have ht64 : t < 64 := by omega
          generalize r - 2 ^ t = r' at HN e2 hlt
          generalize pos + 2 ^ t = pos' at HN e4
          clear s1 s2 s3 s4 hq1 hr hp hr64 HK ht hb1 hb2
          go_wp2_with (first | (go_at_call 60; refine hLen.mono ?_; rintro e w' ⟨rfl, rfl⟩) | (go_at_call 61; refine (newNode_c _ _ _).mono ?_; rintro e w' ⟨rfl, rfl⟩) | (at_builtin; refine wpList_append_own_at _ rfl (.tmp 56) (.tmp 62) 54 rfl base 55 i0 (.agg #[.int .u64 0, .int .u64 0]) 2 16 Tryf.underlying54 hi hz0 hz1 hz2 rfl (by decide) _ _ _ rfl ((hG.own.alloc _).alloc _) ⟨wr.heap.size + 1, 0, none⟩ 1 1 [.int .u64 t, .int .u64 q1] rfl rfl (by have := World.news_of_block (heap_alloc_new (wr.alloc (.cells #[.int .u64 t, .int .u64 q1] 55)) (.cells #[.int .u64 t, .int .u64 q1] 55)); simpa using this) (by simp [Value.oneCell']) (room1 hroom hLl) (room2 hroom hLl) (by have := hG.grown.size; simp; omega) ?_; intro v' w1 hown' hgrow _ hat))
          go_roundw
          case rel => exact ⟨r', pos', L ++ [(t, q1)], rfl, rfl, HN, by
            have := ((hG.alloc _).alloc _).next hown' hgrow hat
            simpa [nodeCells, Nat.add_assoc] using this⟩
          case measure => simp [intOf]; omega
    · obtain ⟨q, hq, ht⟩ := ctz_odd l hl hlt64
      have hTz := tz_c l hl hlt64 wr (hTG.out hG)
      generalize Lib.ctz 64 l = t at hq ht hTz
      obtain ⟨s1, s2, s3, s4⟩ := Pl.left_step hL.ok HE.out hq
      obtain ⟨q1, hq1⟩ : ∃ q1, q1 = pos / 2 ^ t := ⟨_, rfl⟩
      have HN : LRel P0 (b + l0) D e (pos + 2 ^ t) (l - 2 ^ t) (L ++ [(t, q1)]) := ⟨s3, by rw [← hL.eq, s1, hq1]; simp, by have := hL.sum; omega⟩
      have hp := Nat.two_pow_pos t
      have e1 : (pos : Int) / 2 ^ t = (q1 : Int) := by rw [hq1]; simp
      have e2 : bits .xor .u64 (l : Int) ((2 : Int) ^ t) = ((l - 2 ^ t : Nat) : Int) := by
        rw [← s2]
        have h := u64_xor_nat l (2 ^ t) hlt64 (by omega)
        simpa using h
      have e3 := pow_w64 t ht
      have e4 : IntKind.u64.wrap ((pos : Int) + (2 : Int) ^ t) = ((pos + 2 ^ t : Nat) : Int) := by
        have h : pos + 2 ^ t < 18446744073709551616 := by obtain ⟨_, _, _, h, _⟩ := hL.ok; have := HE.out; omega
        have := wrapN _ h
        simpa using this
      have e5 : IntKind.u64.wrap (t : Int) = (t : Int) := wrapN t (by omega)
      have hne : ((l : Int) != 0) = true := by simp; omega
      have hmin : min t 64 = t := by omega
      have hlt : l - 2 ^ t < l := by omega
      generalize l - 2 ^ t = l' at HN e2 hlt
      generalize pos + 2 ^ t = pos' at HN e4
      clear hL hq s1 s2 s3 s4 hq1 hl hp hlt64
      have hL : L.length ≤ 128 := hLl
      go_wp2_with (first | (go_at_call 53; refine hTz.mono ?_; rintro e w' ⟨rfl, rfl⟩) | (go_at_call 61; refine (newNode_c _ _ _).mono ?_; rintro e w' ⟨rfl, rfl⟩) | (at_builtin; refine wpList_append_own_at _ rfl (.tmp 34) (.tmp 40) 54 rfl base 55 i0 (.agg #[.int .u64 0, .int .u64 0]) 2 16 Tryf.underlying54 hi hz0 hz1 hz2 rfl (by decide) _ _ _ rfl ((hG.own.alloc _).alloc _) ⟨wr.heap.size + 1, 0, none⟩ 1 1 [.int .u64 t, .int .u64 q1] rfl rfl (by have := World.news_of_block (heap_alloc_new (wr.alloc (.cells #[.int .u64 t, .int .u64 q1] 55)) (.cells #[.int .u64 t, .int .u64 q1] 55)); simpa using this) (by simp [Value.oneCell']) (room1 hroom hL) (room2 hroom hL) (by have := hG.grown.size; simp; omega) ?_; intro v' w1 hown' hgrow _ hat))
      go_roundw
      case rel => exact ⟨l', pos', L ++ [(t, q1)], rfl, rfl, HN, by
        have := ((hG.alloc _).alloc _).next hown' hgrow hat
        simpa [nodeCells, Nat.add_assoc] using this⟩
      case measure => simp [intOf]; omega
end Go.Proofs.YtniodnkejpbheaaFmt
