/- laws.zzFits1, spec.Leaves, spec.Hashes, laws.sameHashes. -/
import Derived.Test.YtpdmmmcelkinjaaFmtBuilt
import Derived.Test.YtpdmmmcelkinjaaFmtEqual
namespace Go.Proofs.YtpdmmmcelkinjaaFmt
open Go.ChangeShapes Go.WideShapes Go.ChangeAt Go.RowKit
set_option maxRecDepth 20000
/-- The element at k, as the walk wants it. -/
theorem HashesR.at {w : World} {A : Option Addr} {n cap : Nat} {L : List (List Nat)} (h : HashesR w (.slice A n cap) L) (k : Nat) (hk : k < L.length) :
    ∃ g o A2 c2, A = some ⟨g, o, none⟩ ∧ w.cell? ⟨g, o + k, none⟩ = some (.slice A2 L[k].length c2) ∧ BytesR w (.slice A2 L[k].length c2) L[k] := by
  obtain ⟨A', cap', e, hc, hy, hat⟩ := h
  injection e with e1 e2 e3
  subst e1 e2 e3
  obtain ⟨g, o, rfl, h'⟩ := hat (by omega)
  obtain ⟨u, hu, hb⟩ := h' k hk
  obtain ⟨A2, c2, rfl, _⟩ := id hb
  exact ⟨g, o, A2, c2, rfl, hu, hb⟩
/-- A yes or a no, the memory as it was. -/
def RetIs (w : World) (p : Prop) (e : Ending) (w' : World) : Prop := ((p ∧ e = .returned (.bool true)) ∨ (¬ p ∧ e = .returned (.bool false))) ∧ w = w'
theorem RetIs.yes {w w' : World} {p : Prop} {e : Ending} (h : RetIs w p e w') (hp : p) : e = .returned (.bool true) ∧ w = w' := ⟨h.1.elim (fun h => h.2) (fun h => absurd hp h.1), h.2⟩
theorem RetIs.no {w w' : World} {p : Prop} {e : Ending} (h : RetIs w p e w') (hp : ¬ p) : e = .returned (.bool false) ∧ w = w' := ⟨h.1.elim (fun h => absurd h.1 hp) (fun h => h.2), h.2⟩
set_option maxHeartbeats 1000000 in
theorem fits1_c (v : Value) (L : List (List Nat)) (w : World) (hv : HashesR w v L) : Calls Tryf.prog 14 #[v] w (RetIs w (Fits L)) := by
  obtain ⟨A, cap, rfl, _⟩ := id hv
  have HV := Lib.hid hv
  clear hv
  by_cases hn : L.length ≤ 2147483647
  case neg =>
    have h1 : (2147483647 : Int) < (L.length : Int) := by omega
    have HF := Lib.hid (fun h : Fits L => hn h.1)
    clear hn
    go_enter Tryf.func14, Tryf.ntmps14
    go_wp2_with fail
    go_ret
    exact ⟨.inr ⟨fun h => HF.out h, rfl⟩, rfl⟩
  have h1 : ¬ (2147483647 : Int) < (L.length : Int) := by omega
  go_enter Tryf.func14, Tryf.ntmps14
  go_wp2_with fail
  go_loop [10] (fun kv => ∃ k : Nat, k ≤ L.length ∧ kv = .int .i64 k ∧ Hid (∀ x ∈ L.take k, x.length ≤ 2147483647)) (fun kv => L.length - (intOf kv).toNat)
  case atStart => exact ⟨0, Nat.zero_le _, rfl, Lib.hid (fun x h => by simp at h)⟩
  case round =>
    obtain ⟨k, hk, rfl, HK⟩ := hrel
    by_cases hkl : k < L.length
    · obtain ⟨g, o, A2, c2, rfl, hc, hb⟩ := HV.out.at k hkl
      have HT := Lib.hid (take_snoc L k hkl)
      have HM := Lib.hid (List.getElem_mem hkl)
      clear hb
      generalize L[k] = l at hc HT HM
      have hk1 : (k : Int) < (L.length : Int) := by omega
      have hk0 : (0 : Int) ≤ (k : Int) := by omega
      by_cases hl : l.length ≤ 2147483647
      · have h2 : ¬ (2147483647 : Int) < (l.length : Int) := by omega
        go_wp2_with fail
        go_round
        case rel => exact ⟨k + 1, by omega, by go_num, Lib.hid (by
          rw [HT.out]
          intro x hx
          rcases List.mem_append.1 hx with h | h
          · exact HK.out x h
          · simp at h; subst h; exact hl)⟩
        case measure => simp [intOf] <;> omega
      · have h2 : (2147483647 : Int) < (l.length : Int) := by omega
        have HF := Lib.hid (fun h : Fits L => hl (h.2 l HM.out))
        clear hl
        go_wp2_with fail
        go_ret
        exact ⟨.inr ⟨fun h => HF.out h, rfl⟩, rfl⟩
    · have hk1 : ¬ (k : Int) < (L.length : Int) := by omega
      obtain rfl : k = L.length := by omega
      rw [List.take_length] at HK
      clear hkl
      go_wp2_with fail
      go_ret
      exact ⟨.inl ⟨⟨hn, HK.out⟩, rfl⟩, rfl⟩
/-- What spec.Leaves asks. -/
def IsLeaves (L : List (List Nat)) : Prop := (∀ x ∈ L, x.length = 2) ∧ 0 < L.length ∧ L.length ≤ 200
set_option maxHeartbeats 1000000 in
theorem leaves_c (v : Value) (L : List (List Nat)) (w : World) (hv : HashesR w v L) (hle : L.length ≤ 2147483647) : Calls Tryf.prog 15 #[v] w (RetIs w (IsLeaves L)) := by
  obtain ⟨A, cap, rfl, _⟩ := id hv
  have HV := Lib.hid hv
  clear hv
  go_enter Tryf.func15, Tryf.ntmps15
  go_wp2_with fail
  go_loop [7] (fun kv => ∃ k : Nat, k ≤ L.length ∧ kv = .int .i64 k ∧ Hid (∀ x ∈ L.take k, x.length = 2)) (fun kv => L.length - (intOf kv).toNat)
  case atStart => exact ⟨0, Nat.zero_le _, rfl, Lib.hid (fun x h => by simp at h)⟩
  case round =>
    obtain ⟨k, hk, rfl, HK⟩ := hrel
    by_cases hkl : k < L.length
    · obtain ⟨g, o, A2, c2, rfl, hc, hb⟩ := HV.out.at k hkl
      have HT := Lib.hid (take_snoc L k hkl)
      have HM := Lib.hid (List.getElem_mem hkl)
      clear hb
      generalize L[k] = l at hc HT HM
      have hk1 : (k : Int) < (L.length : Int) := by omega
      have hk0 : (0 : Int) ≤ (k : Int) := by omega
      by_cases hl : l.length = 2
      · rw [hl] at hc
        go_wp2_with fail
        go_round
        case rel => exact ⟨k + 1, by omega, by go_num, Lib.hid (by
          rw [HT.out]
          intro x hx
          rcases List.mem_append.1 hx with h | h
          · exact HK.out x h
          · simp at h; subst h; exact hl)⟩
        case measure => simp [intOf] <;> omega
      · have h2 : ¬ (l.length : Int) = 2 := by omega
        have HF := Lib.hid (fun h : IsLeaves L => hl (h.1 l HM.out))
        clear hl
        go_wp2_with fail
        go_ret
        exact ⟨.inr ⟨fun h => HF.out h, rfl⟩, rfl⟩
    · have hk1 : ¬ (k : Int) < (L.length : Int) := by omega
      obtain rfl : k = L.length := by omega
      rw [List.take_length] at HK
      clear hkl
      by_cases h0 : 0 < L.length
      · have h1 : (0 : Int) < (L.length : Int) := by omega
        by_cases h2 : L.length ≤ 200
        · have h3 : (L.length : Int) ≤ 200 := by omega
          go_wp2_with fail
          go_ret
          exact ⟨.inl ⟨⟨HK.out, h0, h2⟩, rfl⟩, rfl⟩
        · have h3 : ¬ (L.length : Int) ≤ 200 := by omega
          go_wp2_with fail
          go_ret
          exact ⟨.inr ⟨fun h => h2 h.2.2, rfl⟩, rfl⟩
      · have h1 : ¬ (0 : Int) < (L.length : Int) := by omega
        go_wp2_with fail
        go_ret
        exact ⟨.inr ⟨fun h => h0 h.2.1, rfl⟩, rfl⟩
/-- A yes or a no, the elder memory as it was. -/
def RetIsB (w : World) (p : Prop) (e : Ending) (w' : World) : Prop := ((p ∧ e = .returned (.bool true)) ∨ (¬ p ∧ e = .returned (.bool false))) ∧ Below w.heap.size w w'
theorem RetIsB.yes {w w' : World} {p : Prop} {e : Ending} (h : RetIsB w p e w') (hp : p) : e = .returned (.bool true) ∧ Below w.heap.size w w' := ⟨h.1.elim (fun h => h.2) (fun h => absurd hp h.1), h.2⟩
set_option maxHeartbeats 1000000 in
theorem sameHashes_c (v u : Value) (L M : List (List Nat)) (w : World) (hv : HashesR w v L) (hu : HashesR w u M) (hle : L.length ≤ 2147483647) : Calls Tryf.prog 22 #[v, u] w (RetIsB w (L = M)) := by
  obtain ⟨A, cap, rfl, _⟩ := id hv
  obtain ⟨A', cap', rfl, _⟩ := id hu
  have HV := Lib.hid hv
  have HU := Lib.hid hu
  clear hv hu
  by_cases hn : L.length = M.length
  case neg =>
    have h1 : ¬ (L.length : Int) = (M.length : Int) := by omega
    have HF := Lib.hid (fun h : L = M => hn (by rw [h]))
    clear hn
    go_enter Tryf.func22, Tryf.ntmps22
    go_wp2_with fail
    go_ret
    exact ⟨.inr ⟨fun h => HF.out h, rfl⟩, Below.refl _ _⟩
  have HN := Lib.hid hn
  rw [← hn]
  clear hn
  go_enter Tryf.func22, Tryf.ntmps22
  go_wp2_with fail
  go_loopw [5, 13] (fun _ kv wr => Below w.heap.size w wr ∧ ∃ k : Nat, k ≤ L.length ∧ kv = .int .i64 k ∧ Hid (L.take k = M.take k)) (fun _ kv _ => L.length - (intOf kv).toNat)
  case atStart => exact ⟨Below.refl _ _, 0, Nat.zero_le _, rfl, Lib.hid rfl⟩
  case round =>
    obtain ⟨hB, k, hk, rfl, HK⟩ := hrel
    by_cases hkl : k < L.length
    · obtain ⟨g, o, A2, c2, rfl, hc, hb⟩ := HV.out.at k hkl
      obtain ⟨g', o', A2', c2', rfl, hc', hb'⟩ := HU.out.at k (by rw [← HN.out]; exact hkl)
      have HT := Lib.hid (take_snoc L k hkl)
      have HT' := Lib.hid (take_snoc M k (by rw [← HN.out]; exact hkl))
      have HL := Lib.hid (List.getElem?_eq_getElem hkl)
      have HL' := Lib.hid (List.getElem?_eq_getElem (l := M) (i := k) (by rw [← HN.out]; exact hkl))
      have s1 := (hb.below hB.drew).str
      have s2 := (hb'.below hB.drew).str
      have HB := Lib.hid hb.bytes
      have HB' := Lib.hid hb'.bytes
      have hc := (hB.cell (World.block_lt_of_cell? w _ hc)).trans hc
      have hc' := (hB.cell (World.block_lt_of_cell? w _ hc')).trans hc'
      clear hb hb'
      generalize L[k] = l at hc HT HL s1 HB
      generalize M[k]'_ = m at hc' HT' HL' s2 HB'
      have hk1 : (k : Int) < (L.length : Int) := by omega
      have hk0 : (0 : Int) ≤ (k : Int) := by omega
      by_cases hl : l = m
      · subst hl
        go_wp2_with fail
        go_region
        go_wp2_with fail
        go_roundw
        case rel => exact ⟨hB.drew, k + 1, by omega, by go_num, Lib.hid (by rw [HT.out, HT'.out, HK.out])⟩
        case measure => simp [intOf] <;> omega
      · have hn : ¬ (bs l).toList = (bs m).toList := fun h => hl (bs_inj HB.out HB'.out (by
          rw [ByteArray.toList_eq, ByteArray.toList_eq] at h
          cases hl : bs l with | mk a => cases hm : bs m with | mk b => rw [hl, hm] at h; cases a; cases b; simp at h; subst h; rfl))
        have HF := Lib.hid (fun h : L = M => hl (by have a := HL.out; have b := HL'.out; rw [h, b] at a; injection a with a; exact a.symm))
        have hn2 : ((bs l).toList == (bs m).toList) = false := by simpa using hn
        clear hl hn
        go_wp2_with fail
        go_region
        go_wp2_with fail
        go_ret
        exact ⟨.inr ⟨fun h => HF.out h, rfl⟩, hB.drew⟩
    · have hk1 : ¬ (k : Int) < (L.length : Int) := by omega
      obtain rfl : k = L.length := by omega
      rw [List.take_length] at HK
      clear hkl
      go_wp2_with fail
      go_ret
      exact ⟨.inl ⟨by have := HK.out; rw [this, HN.out, List.take_length], rfl⟩, hB⟩
theorem hashes_s (v : Value) (L : List (List Nat)) (w : World) (hv : HashesR w v L) (hle : L.length ≤ 2147483647) : Calls Tryf.prog 19 #[v] w (RetIs w (L.length = 0 ∨ IsLeaves L)) := by
  have HL := Lib.hid (leaves_c v L w hv hle)
  obtain ⟨A, cap, rfl, hc9⟩ := id hv
  clear hv hc9
  by_cases h0 : L.length = 0
  · have e0 : (L.length : Int) = 0 := by omega
    rw [h0] at HL ⊢
    clear e0
    go_enter Tryf.func19, Tryf.ntmps19
    go_wp2_with fail
    go_ret
    exact ⟨.inl ⟨by simp, rfl⟩, rfl⟩
  · have e0 : ¬ (L.length : Int) = 0 := by omega
    by_cases hl : IsLeaves L
    · have HL2 : Hid (Calls Tryf.prog 15 #[.slice A L.length cap] w fun e w' => e = .returned (.bool true) ∧ w = w') := Lib.hid (HL.out.mono fun _ _ r => r.yes hl)
      have hx : Hid (L.length = 0 ∨ IsLeaves L) := .inr hl
      generalize L.length = n at *
      clear HL hl h0
      go_enter Tryf.func19, Tryf.ntmps19
      go_wp2_with fail
      refine HL2.out.mono ?_; rintro e w' ⟨rfl, rfl⟩
      go_wp2_with fail
      go_ret
      exact ⟨.inl ⟨hx.out, rfl⟩, rfl⟩
    · have HL2 : Hid (Calls Tryf.prog 15 #[.slice A L.length cap] w fun e w' => e = .returned (.bool false) ∧ w = w') := Lib.hid (HL.out.mono fun _ _ r => r.no hl)
      have hx : Hid (¬ (L.length = 0 ∨ IsLeaves L)) := fun h => h.elim h0 hl
      generalize L.length = n at *
      clear HL hl h0
      go_enter Tryf.func19, Tryf.ntmps19
      go_wp2_with fail
      refine HL2.out.mono ?_; rintro e w' ⟨rfl, rfl⟩
      go_wp2_with fail
      go_ret
      exact ⟨.inr ⟨hx.out, by simpa using e0⟩, rfl⟩
end Go.Proofs.YtpdmmmcelkinjaaFmt
