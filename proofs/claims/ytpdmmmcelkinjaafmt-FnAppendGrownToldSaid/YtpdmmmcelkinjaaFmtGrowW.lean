/- impl.grow. -/
import Derived.Test.YtpdmmmcelkinjaaFmtAppMG
import Derived.Laws.EntriesVeiled
import Derived.OwnWalk
namespace Go.Proofs.YtpdmmmcelkinjaaFmt
open Go.ChangeShapes Go.WideShapes Go.ChangeAt Go.RowKit
set_option maxRecDepth 20000
theorem empty_c (gf b : Nat) (w : World) : Calls Tryf.prog 35 #[.pointer (some ⟨gf, 0, none⟩), .int .u64 (b : Int)] w fun r w' => r = .returned (.pointer (some ⟨w.heap.size, 0, none⟩)) ∧ w.alloc (.cells #[.pointer (some ⟨gf, 0, none⟩), .int .u64 (b : Int), .int .u64 (b : Int), .slice none 0 0] 82) = w' := by
  go_enter Tryf.func35, Tryf.ntmps35
  go_wp2
  go_ret
  exact ⟨rfl, rfl⟩
/-- The leaves of a range from b on. -/
def Pl.lv (L : List (List Nat)) (b i : Nat) : List Nat := Pl.atL L (i - b)
theorem ph_empty (h : Pl.HF) (f : Nat → List Nat) (b : Nat) : Pl.ph h f b (b + 0) = [] := by
  unfold Pl.ph Pl.pieces
  rw [Nat.add_zero, Pl.pcs_nil _ _ _ _ (Nat.le_refl _)]
  rfl
/-- What stands ready as impl.grow begins to append. -/
theorem grow_start (w : World) (h : Pl.HF) (b : Nat) (o : Obj) :
    Below w.heap.size w (((((w.alloc o).alloc (.cells #[hashF h] 58)).alloc (.cells #[.pointer (some ⟨w.heap.size + 1, 0, none⟩), .int .u64 (b : Int), .int .u64 (b : Int), .slice none 0 0] 82)).alloc (.cells #[] 47)).alloc (.cells #[.slice (some ⟨w.heap.size + 1 + 1 + 1, 0, none⟩) 0 0] 29)) ∧
    RangeB (((((w.alloc o).alloc (.cells #[hashF h] 58)).alloc (.cells #[.pointer (some ⟨w.heap.size + 1, 0, none⟩), .int .u64 (b : Int), .int .u64 (b : Int), .slice none 0 0] 82)).alloc (.cells #[] 47)).alloc (.cells #[.slice (some ⟨w.heap.size + 1 + 1 + 1, 0, none⟩) 0 0] 29)) (w.heap.size + 1 + 1) (w.heap.size + 1) h b b (.slice none 0 0) ∧
    Blk (((((w.alloc o).alloc (.cells #[hashF h] 58)).alloc (.cells #[.pointer (some ⟨w.heap.size + 1, 0, none⟩), .int .u64 (b : Int), .int .u64 (b : Int), .slice none 0 0] 82)).alloc (.cells #[] 47)).alloc (.cells #[.slice (some ⟨w.heap.size + 1 + 1 + 1, 0, none⟩) 0 0] 29)) (w.heap.size + 1 + 1 + 1 + 1) 29 #[.slice (some ⟨w.heap.size + 1 + 1 + 1, 0, none⟩) 0 0] ∧
    SeenB (((((w.alloc o).alloc (.cells #[hashF h] 58)).alloc (.cells #[.pointer (some ⟨w.heap.size + 1, 0, none⟩), .int .u64 (b : Int), .int .u64 (b : Int), .slice none 0 0] 82)).alloc (.cells #[] 47)).alloc (.cells #[.slice (some ⟨w.heap.size + 1 + 1 + 1, 0, none⟩) 0 0] 29)) w.heap.size (.slice (some ⟨w.heap.size + 1 + 1 + 1, 0, none⟩) 0 0) [] := by
  have s1 : (w.alloc o).heap.size = w.heap.size + 1 := by simp
  have b1 := (Below.refl w.heap.size w).alloc (Nat.le_refl _) o
  generalize w.alloc o = w1 at *
  have k2 := Blk.new' w1 58 #[hashF h] s1.symm
  have s2 : (w1.alloc (.cells #[hashF h] 58)).heap.size = w.heap.size + 1 + 1 := by simp [s1]
  have b2 := b1.alloc b1.size (.cells #[hashF h] 58)
  generalize w1.alloc (.cells #[hashF h] 58) = w2 at *
  have k3 := Blk.new' w2 82 #[.pointer (some ⟨w.heap.size + 1, 0, none⟩), .int .u64 (b : Int), .int .u64 (b : Int), .slice none 0 0] s2.symm
  have k2' := k2.alloc (.cells #[.pointer (some ⟨w.heap.size + 1, 0, none⟩), .int .u64 (b : Int), .int .u64 (b : Int), .slice none 0 0] 82)
  have s3 : (w2.alloc (.cells #[.pointer (some ⟨w.heap.size + 1, 0, none⟩), .int .u64 (b : Int), .int .u64 (b : Int), .slice none 0 0] 82)).heap.size = w.heap.size + 1 + 1 + 1 := by simp [s2]
  have b3 := b2.alloc b2.size (.cells #[.pointer (some ⟨w.heap.size + 1, 0, none⟩), .int .u64 (b : Int), .int .u64 (b : Int), .slice none 0 0] 82)
  generalize w2.alloc (.cells #[.pointer (some ⟨w.heap.size + 1, 0, none⟩), .int .u64 (b : Int), .int .u64 (b : Int), .slice none 0 0] 82) = w3 at *
  have o4 := World.ownsRow_lit (base := w.heap.size) (e := 47) (size := 3) w3 #[] 0 (by omega) (by unfold maxLen; omega) rfl
  rw [s3] at o4
  have s4 : (w3.alloc (.cells #[] 47)).heap.size = w.heap.size + 1 + 1 + 1 + 1 := by simp [s3]
  have b4 := b3.alloc b3.size (.cells #[] 47)
  have k5 := Blk.new' (w3.alloc (.cells #[] 47)) 29 #[.slice (some ⟨w.heap.size + 1 + 1 + 1, 0, none⟩) 0 0] s4.symm
  exact ⟨b4.alloc b4.size _, ⟨(k3.alloc _).alloc _, (k2'.alloc _).alloc _⟩, k5, ⟨[], rfl, o4.alloc _, fun k u s hu => by simp at hu⟩⟩
set_option maxHeartbeats 2000000 in
theorem grow_c (h : Pl.HF) (ok : h.ok) (b : Nat) (v : Value) (L : List (List Nat)) (w : World) (hv : HashesR w v L) (h2 : ∀ x ∈ L, x.length = 2) (hl : L.length ≤ 1000) (hb : b + L.length < 4611686018427387904) (hT : Tab w) :
    Calls Tryf.prog 33 #[hashV h, .int .u64 (b : Int), v] w fun r w' => ∃ g gf hv' av, r = .returned (.tuple #[.pointer (some ⟨g, 0, none⟩), av, .bool true]) ∧ RangeB w' g gf h b (b + L.length) hv' ∧ BuiltT w' w.heap.size hv' (Pl.ph h (Pl.lv L b) b (b + L.length)) ∧ SeenB w' w.heap.size av (Pl.grownL h (Pl.lv L b) b L.length) ∧ w.heap.size ≤ g ∧ Below w.heap.size w w' := by
  have htb : 0 < w.heap.size := World.block_lt_of_cell? w _ (hT 0 (by decide))
  obtain ⟨A, cap, rfl, hcap, hy, hat⟩ := hv
  have HT := Lib.hid hT
  have HY := Lib.hid hy
  have H2 := Lib.hid h2
  clear hy h2 hT
  have HOK := Lib.hid ok
  obtain ⟨j0, hj, hy0, hy1, hy2⟩ := info_parts u8Info
  have HST := Lib.hid (grow_start w h b (.cells #[.int .u32 (h.A : Int), .int .u32 (h.B : Int), .int .u32 (h.C : Int)] 24))
  have HTB := Lib.hid htb
  have HBL := Lib.hid hb
  clear htb hb ok
  obtain ⟨Ah, Bh, Ch⟩ := h
  unfold hashV
  simp only [] at HST ⊢
  go_enter Tryf.func33, Tryf.ntmps33
  go_wp2_with fail
  refine (empty_c _ _ _).mono ?_; rintro r w1 ⟨rfl, rfl⟩
  go_wp2_with fail
  generalize hh : (⟨Ah, Bh, Ch⟩ : Pl.HF) = h at HOK HST ⊢
  go_loopw [13, 14, 23] (fun _ _ kv wr => ∃ k : Nat, k ≤ L.length ∧ kv = .int .i64 k ∧ Hid (∃ hv av, Below w.heap.size w wr ∧ RangeB wr (w.heap.size + 1 + 1) (w.heap.size + 1) h b (b + k) hv ∧ BuiltT wr w.heap.size hv (Pl.ph h (Pl.lv L b) b (b + k)) ∧ Blk wr (w.heap.size + 1 + 1 + 1 + 1) 29 #[av] ∧ SeenB wr w.heap.size av (Pl.grownL h (Pl.lv L b) b k))) (fun _ _ kv _ => L.length - (intOf kv).toNat)
  case atStart =>
    subst hh
    obtain ⟨t1, t2, t3, t4⟩ := HST.out
    exact ⟨0, Nat.zero_le _, rfl, Lib.hid ⟨_, _, t1, t2, by
      rw [ph_empty]
      exact BuiltT.nil _ _, t3, t4⟩⟩
  case round =>
    obtain ⟨k, hk, rfl, KR⟩ := hrel
    by_cases hkl : k < L.length
    · obtain ⟨g, o, rfl, hc⟩ := hat (by omega)
      obtain ⟨u, hu, hbr⟩ := hc k hkl
      have hl2 := H2.out L[k] (List.getElem_mem hkl)
      have HLV : Hid (Pl.lv L b (b + k) = L[k]) := Lib.hid (by unfold Pl.lv Pl.atL; rw [Nat.add_sub_cancel_left, List.getD_eq_getElem?_getD, List.getElem?_eq_getElem hkl]; rfl)
      have HYL := Lib.hid (HY.out L[k] (List.getElem_mem hkl))
      obtain ⟨hvr, avr, hB, hRr, hBr, hGr, hSr⟩ := KR.out
      have hu' := (hB.cell (World.block_lt_of_cell? w _ hu)).trans hu
      have hbr' := hbr.below hB
      generalize L[k] = l at *
      obtain ⟨A2, n2, c2, rfl⟩ := hbr.form
      obtain ⟨hn2, hnews⟩ := BytesR.news hbr'
      rw [hl2] at hn2
      subst hn2
      have Hnews := Lib.hid hnews
      have HL2 := Lib.hid hl2
      have hk1 : (k : Int) < (L.length : Int) := by omega
      have hk0 : (0 : Int) ≤ (k : Int) := by omega
      have HBk := Lib.hid hB
      have HRk := Lib.hid hRr
      have HHk := Lib.hid hBr
      have HGk := Lib.hid hGr
      have HSk := Lib.hid hSr
      have HLc := Lib.hid hat
      clear hc hbr hu hnews hbr' hB hRr hBr hGr hSr hat hl2
      go_wp2_with (first
        | (at_builtin
           refine wpList_append_list rfl (.tmp 28) (.tmp 29) 28 rfl wr.heap.size 5 j0 (.int .u8 0) 1 1 Tryf.underlying28 hj hy0 hy1 hy2 rfl (by decide) _ 0 [] rfl (World.ownsRow_lit _ _ 0 (Nat.le_refl _) (by unfold maxLen; omega) rfl) A2 2 c2 (u8Cells l) rfl (by simp [u8Cells, HL2.out]) (fun h => by obtain ⟨ad, e, h⟩ := Hnews.out h; exact ⟨ad, e, fun j u hu => by rw [← h j u hu]; exact ((Below.refl wr.heap.size wr).alloc (Nat.le_refl _) _).cell (World.block_lt_of_cell? wr _ (h j u hu))⟩) (u8_one l) (by unfold maxLen; omega) (by omega) (by simp) ?_
           intro v1 w1 hown1 hg1 _
           obtain ⟨A1, c1, rfl, _⟩ := own_slice hown1
           have hB1 : Below wr.heap.size wr w1 := ((Below.refl wr.heap.size wr).alloc (Nat.le_refl _) _).grown hg1 (by simp) (fun j hj => by have hj' : some wr.heap.size = some j := hj; injection hj' with hj'; omega)
           have hown2 : w1.ownsRow wr.heap.size 5 1 (.slice A1 2 c1) l.length (u8Cells l) := by rw [HL2.out]; simpa using hown1
           have BT := BytesT.of_own hown2 HYL.out
           obtain ⟨gu, ou, cu, eU⟩ := BT.form2 HL2.out
           injection eU with eU1 eU2 eU3
           clear hown1 hown2 hg1
           subst eU1 eU3)
        | fail)
      have hK1 := KeepT.of_below (ts := []) hB1
      have hB2 : Below w.heap.size w w1 := HBk.out.trans (hB1.mono HBk.out.size)
      have hbk : b + k + 1 < 4611686018427387904 := by have := HBL.out; omega
      rw [← HLV.out] at BT HL2
      refine (append_G h HOK.out (Pl.lv L b) (w.heap.size + 1 + 1) (w.heap.size + 1) w.heap.size b (b + k) hvr gu ou c1 (w.heap.size + 1 + 1 + 1 + 1) avr (Pl.grownL h (Pl.lv L b) b k) w1 (Nat.le_add_right _ _) (by omega) (HT.out.below hB2) HTB.out (HRk.out.keep hK1 (by simp) (by simp)) (HHk.out.keep hK1 (by simp) (by simp)) (by omega) BT HL2.out (hK1.blk HGk.out (by simp)) (HSk.out.keep hK1 (by simp) (by simp)) (by omega) (by have := Pl.grownL_length h (Pl.lv L b) b k (by omega); omega)).mono ?_
      rintro r w4 ⟨rfl, k1, k2, hv4, k3, k4, av4, k5, k6⟩
      go_wp2_with fail
      go_roundw
      case rel => exact ⟨k + 1, by omega, by go_num, Lib.hid ⟨hv4, av4, hB2.trans k2, k3, k4, k5, k6⟩⟩
      case measure => simp [intOf] <;> omega
    · obtain rfl : k = L.length := by omega
      have hk1 : ¬ (L.length : Int) < (L.length : Int) := by omega
      obtain ⟨hvr, avr, hB, hRr, hBr, hGr, hSr⟩ := KR.out
      clear hat
      have hc0 : wr.cell? ⟨w.heap.size + 1 + 1 + 1 + 1, 0, none⟩ = some avr := hGr.cell 0
      go_wp2_with fail
      go_region_held3 (fun w' => w'.cell? ⟨w.heap.size + 1 + 1 + 1 + 1, 0, none⟩ = some avr) (first | assumption | exact hc0 | fail) (fail)
      go_wp2_with fail
      go_ret3
      subst hh
      have KD := (KeepT.refl [] wr).drew
      exact ⟨_, _, hvr, avr, rfl, hRr.keep KD (by simp) (by simp), hBr.keep KD (by simp) (by simp), hSr.keep KD (by simp) (by simp), by omega, hB.drew⟩
end Go.Proofs.YtpdmmmcelkinjaaFmt
