/- A region that draws its order, at whose end a cell is written that a load of the same region has read: the loads are taken first; what is kept (S) is asked only of operations that do not stand behind them. -/
import Derived.Test.YtpdmmmcelkinjaaFmtKeep
import Derived.Deep.RegionHeldLaw
namespace Go.Proofs.YtpdmmmcelkinjaaFmt
open Go.ChangeShapes Go.WideShapes Go.ChangeAt Go.RowKit
section
variable {P : Program} {ops : Array Oper} {Q : Exit → Act → World → Prop} {md : Region.Mode} {S : World → Prop} {X : List Nat}
/-- Whatever order is picked; S holds behind every operation but those of X. -/
def wpAnyE (P : Program) (md : Region.Mode) (ops : Array Oper) (Q : Exit → Act → World → Prop) (S : World → Prop) (X : List Nat) : Nat → Array Bool → Act → World → Prop
  | 0, listed, a, w => Region.ready md ops listed = [] ∧ Q .normal a w
  | fuel + 1, listed, a, w => (Region.ready md ops listed = [] → Q .normal a w) ∧
    ∀ i ∈ Region.ready md ops listed, wpOp P ops Q i (fun a' w' => (i ∉ X → S w') ∧ wpAnyE P md ops Q S X fuel (listed.setIfInBounds i true) a' w') a w
theorem wpAny_of_E : ∀ (fuel : Nat) (listed : Array Bool) (a : Act) (w : World), wpAnyE P md ops Q S X fuel listed a w → wpAny P md ops Q fuel listed a w
  | 0, _, _, _, h => h
  | fuel + 1, _, _, _, h => ⟨h.1, fun i hi => wpOp_mono (fun a' w' h' => wpAny_of_E fuel _ a' w' h'.2) (h.2 i hi)⟩
/-- Each operation of c waits for i, or for another one of c. -/
def waits (md : Region.Mode) (ops : Array Oper) (c : List Nat) (i : Nat) : Bool :=
  c.all fun z => match ops[z]? with | none => true | some oz => oz.after.any fun e => Region.binds md e && (e.on == i || c.contains e.on)
theorem waits_not {c : List Nat} {i j : Nat} {listed : Array Bool} (hw : waits md ops c i = true) (hc : ∀ z ∈ c, listed.getD z true = false) (hi : listed.getD i true = false) (hj : j ∈ Region.ready md ops listed) : j ∉ c := by
  intro hm
  obtain ⟨_, oj, hoj, hall⟩ := mem_ready.1 hj
  have h1 := List.all_eq_true.1 hw j hm
  rw [hoj] at h1
  simp only [Array.any_eq_true, Bool.and_eq_true, Bool.or_eq_true, beq_iff_eq] at h1
  have key : ∀ z, listed.getD z true = false → listed.getD z false = true → False := fun z h0 h1 => by
    rcases Nat.lt_or_ge z listed.size with h' | h'
    · simp [h'] at h0 h1; rw [h0] at h1; cases h1
    · simp [Array.getElem?_eq_none h'] at h1
  first
    | (obtain ⟨k, hk, hb, ho⟩ := h1
       have h2 := hall _ (Array.getElem_mem hk) hb
       rcases ho with ho | ho
       · rw [ho] at h2; exact key _ hi h2
       · exact key _ (hc _ (by simpa using ho)) h2)
theorem wpAnyE_first {i : Nat} {oi : Oper} {v : Value} {c : List Nat} (hi : ops[i]? = some oi) (hsel : ∀ (j : Nat) (o : Oper) cs b, ops[j]? = some o → o.op ≠ .select cs b)
    (hQ : ∀ c a w, Q (.panic c) (a.put oi.dst v) w → Q (.panic c) a w) (hw : waits md ops c i = true) (hX : ∀ x ∈ X, x ∈ c) :
    ∀ (fuel : Nat) (listed : Array Bool) (a : Act) (w : World),
      (∀ j oj, ops[j]? = some oj → j ≠ i → listed.getD j true = false → (∀ e ∈ oj.after, Region.binds md e = true → e.on ≠ i) → oi.apart ops oj = true) →
      (∀ z ∈ c, listed.getD z true = false) → i ∈ Region.ready md ops listed → YieldsIf P ops S oi v a → S w →
      wpAnyE P md ops Q S X fuel (listed.setIfInBounds i true) (a.put oi.dst v) w → wpAnyE P md ops Q S X (fuel + 1) listed a w := by
  intro fuel
  induction fuel with
  | zero =>
    intro listed a w _ _ hr hy hS H
    refine ⟨fun h => (by rw [h] at hr; cases hr), fun j hj => ?_⟩
    by_cases hji : j = i
    · subst hji; exact hy.wpOp hi hS ⟨fun _ => hS, H⟩
    · have := ready_mono hj hji
      rw [H.1] at this
      cases this
  | succ fuel ih =>
    intro listed a w hfree hc hr hy hS H
    refine ⟨fun h => (by rw [h] at hr; cases hr), fun j hj => ?_⟩
    by_cases hji : j = i
    · subst hji; exact hy.wpOp hi hS ⟨fun _ => hS, H⟩
    · have hjc := waits_not hw hc (mem_ready.1 hr).1 hj
      have h1 := H.2 j (ready_mono hj hji)
      obtain ⟨hjun, oj, hoj, hall⟩ := mem_ready.1 hj
      have hnot : ∀ e ∈ oj.after, Region.binds md e = true → e.on ≠ i := fun e he hb heq => by
        have h1 := hall e he hb
        have h0 := (mem_ready.1 hr).1
        rw [heq] at h1
        rcases Nat.lt_or_ge i listed.size with h' | h'
        · simp [h'] at h0 h1; rw [h0] at h1; cases h1
        · simp [Array.getElem?_eq_none h'] at h1
      have h2 := wpOp_putIf hoj (hfree j oj hoj hji hjun hnot) (fun cs b => hsel i oi cs b hi) (fun cs b => hsel j oj cs b hoj) hQ hy h1
      have hfree' : ∀ k ok, ops[k]? = some ok → k ≠ i → (listed.setIfInBounds j true).getD k true = false →
          (∀ e ∈ ok.after, Region.binds md e = true → e.on ≠ i) → oi.apart ops ok = true := fun k ok hk hki hun hno => by
        refine hfree k ok hk hki ?_ hno
        by_cases hjk : j = k
        · subst hjk; exact hjun
        · rw [getD_set_ne true hjk] at hun; exact hun
      have hc' : ∀ z ∈ c, (listed.setIfInBounds j true).getD z true = false := fun z hz => by
        rw [getD_set_ne true (fun e => hjc (by rw [e]; exact hz))]
        exact hc z hz
      refine wpOp_mono (fun a' w' h3 => ⟨h3.2.1, ih (listed.setIfInBounds j true) a' w' hfree' hc' (ready_mono hr (Ne.symm hji)) h3.1 (h3.2.1 (fun hm => hjc (hX j hm))) ?_⟩) h2
      rw [Array.setIfInBounds_comm _ _ hji]
      exact h3.2.2
/-- Take number i first. -/
theorem wpAnyE_take (i : Nat) (c : List Nat) (d : Option Nat) {oi : Oper} {v : Value} {fuel : Nat} {listed : Array Bool} {a : Act} {w : World} (hi : ops[i]? = some oi) (hd : oi.dst = d)
    (hs : Region.noSelect ops = true) (hf : Region.free md ops listed i = true) (hr : (Region.ready md ops listed).contains i = true) (hw : waits md ops c i = true) (hX : (X.all fun x => c.contains x) = true) (hc : (c.all fun z => !listed.getD z true) = true)
    (hQ : ∀ c a w, Q (.panic c) (a.put oi.dst v) w → Q (.panic c) a w) (hg : Region.wanted oi (yielded ops a.tmps) = true) (hS : S w) (hy : ∀ w, S w → (execOp a.eval oi).run P w = .ok (.value v) w)
    (h : wpAnyE P md ops Q S X fuel (listed.setIfInBounds i true) (a.put d v) w) : wpAnyE P md ops Q S X (fuel + 1) listed a w :=
  wpAnyE_first hi (Region.noSelect_spec hs) hQ hw (fun x hx => by simpa using List.all_eq_true.1 hX x hx) fuel listed a w (Region.free_spec hi hf) (fun z hz => by simpa using List.all_eq_true.1 hc z hz) (by simpa using hr) (.inl ⟨hg, hy⟩) hS (by rw [hd]; exact h)
/-- One alone may come up. -/
theorem wpAnyE_one (i : Nat) {o : Oper} {fuel : Nat} {listed : Array Bool} {a : Act} {w : World} (hr : Region.ready md ops listed = [i]) (hi : ops[i]? = some o)
    (h : ∀ K' : Act → World → Prop, Shut (∀ a w, (i ∉ X → S w) → wpAnyE P md ops Q S X fuel (listed.setIfInBounds i true) a w → K' a w) → if Region.wanted o (yielded ops a.tmps) = true then Oper.wp P o a w K' Q else K' (a.put o.dst undef) w) :
    wpAnyE P md ops Q S X (fuel + 1) listed a w :=
  ⟨fun h0 => (by rw [hr] at h0; cases h0), fun j hj => by
    rw [hr] at hj
    obtain rfl := List.mem_singleton.1 hj
    exact wpOp_step hi (fun K' hK => h K' (fun a w hS hW => hK a w ⟨hS, hW⟩))⟩
theorem wpAnyE_done {listed : Array Bool} {a : Act} {w : World} (hr : Region.ready md ops listed = []) (h : Q .normal a w) : ∀ fuel, wpAnyE P md ops Q S X fuel listed a w
  | 0 => ⟨hr, h⟩
  | _ + 1 => ⟨fun _ => h, by rw [hr]; simp⟩
theorem wp_region_E (S : World → Prop) (X : List Nat) {id : Nat} {a : Act} {w : World} (hm : P.follows .mixedOrders = true) (hS : S w.drew)
    (h : S w.drew → wpAnyE P .any ops Q S X ops.size (Array.replicate ops.size false) a w.drew) : (Code.region id ops true).wp P Q a w :=
  wp_region_any hm (wpAny_of_E _ _ _ _ (h hS))
end
end Go.Proofs.YtpdmmmcelkinjaaFmt
/- The visitors of impl.grow, impl.AppendRange and impl.rangeOf: each puts a node and a copy of its hash behind a list. -/
namespace Go.Proofs.YtpdmmmcelkinjaaFmt
open Go.ChangeShapes Go.WideShapes Go.ChangeAt Go.RowKit
set_option maxRecDepth 20000
theorem seen_one (l i : Nat) (A : Option Addr) (n c : Nat) : ∀ u ∈ [Value.int .u64 (l : Int), .int .u64 (i : Int), .slice A n c], u.oneCell' = true := by
  intro u hu
  simp at hu
  rcases hu with rfl | rfl | rfl <;> rfl
theorem own_ne {w : World} {base g : Nat} {e t : TypeId} {size : Nat} {v : Value} {n : Nat} {xs : List Value} {cs : Array Value} (h : w.ownsRow base e size v n xs) (hb : Blk w g t cs) (hne : t ≠ e) : some g ≠ v.ownBlock := by
  intro he
  rcases h.2 with ⟨rfl, _⟩ | ⟨g', cap, cur, rfl, _, hh, _⟩
  · cases he
  · injection he with he
    subst he
    unfold Blk at hb
    rw [hb] at hh
    injection hh with hh
    injection hh with _ ht _
    exact hne ht
/-- What a visitor gives. -/
def Visited (w : World) (base gv k : Nat) (ht : TypeId) (cs : Array Value) (S : List SeenN) (s : SeenN) (e : Ending) (w' : World) : Prop :=
  e = .returned (.tuple #[]) ∧ ∃ av', SeenB w' base av' (S ++ [s]) ∧ Blk w' gv ht (cs.setIfInBounds k av') ∧ KeepT [47, ht] w w' ∧ Below base w w'
theorem seen_cells (w : World) (cs : List Value) (j : Nat) (u : Value) (h : cs[j]? = some u) : (w.alloc (.cells cs.toArray 47)).cell? ((⟨w.heap.size, 0, none⟩ : Addr).add j) = some u := by
  have e : (⟨w.heap.size, 0, none⟩ : Addr).add j = ⟨w.heap.size, j, none⟩ := by unfold Addr.add; split <;> simp_all
  rw [e, cell_of_row _ _ j cs.toArray 47 (0, 0) (heap_alloc_new w _)]
  simpa using h
theorem seen_step {w1 w2 : World} {gv gB : Nat} {l i : Nat} {av : Value} {k : Nat}
    (S : w1.cell? ⟨gB, 0, none⟩ = some (.int .u64 (l : Int)) ∧ w1.cell? ⟨gB, 1, none⟩ = some (.int .u64 (i : Int)) ∧ w1.cell? ⟨gv, k, none⟩ = some av) (hb : Below w1.heap.size w1 w2) :
    w2.cell? ⟨gB, 0, none⟩ = some (.int .u64 (l : Int)) ∧ w2.cell? ⟨gB, 1, none⟩ = some (.int .u64 (i : Int)) ∧ w2.cell? ⟨gv, k, none⟩ = some av := by
  have up : ∀ {p : Addr} {v : Value}, w1.cell? p = some v → w2.cell? p = some v := fun {p} {_} h => (hb.cell (World.block_lt_of_cell? w1 p h)).trans h
  exact ⟨up S.1, up S.2.1, up S.2.2⟩
set_option maxHeartbeats 2000000 in
theorem growVisit (l i : Nat) (gu ou c : Nat) (hl : List Nat) (gv base : Nat) (S : List SeenN) (av : Value) (w : World) (hu : BytesT w (.slice (some ⟨gu, ou, none⟩) 2 c) hl) (hl2 : hl.length = 2) (hS : SeenB w base av S) (hgv : Blk w gv 29 #[av]) (hn : S.length ≤ 1000000) (hbase : base ≤ gv) :
    Calls Tryf.prog 49 #[.agg #[.int .u64 (l : Int), .int .u64 (i : Int)], .slice (some ⟨gu, ou, none⟩) 2 c, .pointer (some ⟨gv, 0, none⟩)] w (Visited w base gv 0 29 #[av] S (l, i, hl)) := by
  obtain ⟨i0, hi, hz0, hz1, hz2⟩ := info_parts seenInfo
  obtain ⟨j0, hj, hy0, hy1, hy2⟩ := info_parts u8Info
  have hlt : gv < w.heap.size := hgv.lt
  obtain ⟨us, hul, hown, hus⟩ := hS
  have hc : w.cell? ⟨gv, 0, none⟩ = some av := hgv.cell 0
  have hfz : w.frozen? ⟨gv, 0, none⟩ = false := hgv.frozen 0
  obtain ⟨hu2, hnews⟩ := BytesR.news hu.1
  have Hnews := Lib.hid (hnews (by decide))
  have HY := Lib.hid hu.1.bytes
  have HG := Lib.hid hgv
  have HUS := Lib.hid hus
  have HUL := Lib.hid hul
  have HN := Lib.hid hn
  have HL2 := Lib.hid hl2
  have HOWN := Lib.hid hown
  have HB := Lib.hid hbase
  obtain ⟨Av, cv, rfl, _⟩ := own_slice hown
  have hne1 : ¬ gv = w.heap.size := by omega
  have hne2 : ¬ w.heap.size = gv := by omega
  have B0 : Below w.heap.size w (w.alloc (.cells #[.int .u64 (l : Int), .int .u64 (i : Int)] 70)).drew := ((Below.refl _ _).alloc (Nat.le_refl _) _).drew
  have S0 : (w.alloc (.cells #[.int .u64 (l : Int), .int .u64 (i : Int)] 70)).drew.cell? ⟨w.heap.size, 0, none⟩ = some (.int .u64 (l : Int)) ∧ (w.alloc (.cells #[.int .u64 (l : Int), .int .u64 (i : Int)] 70)).drew.cell? ⟨w.heap.size, 1, none⟩ = some (.int .u64 (i : Int)) ∧ (w.alloc (.cells #[.int .u64 (l : Int), .int .u64 (i : Int)] 70)).drew.cell? ⟨gv, 0, none⟩ = some (.slice Av S.length cv) := ⟨by simp, by simp, B0.cell hlt |>.trans hc⟩
  have BX : Below w.heap.size w ((w.alloc (.cells #[.int .u64 (l : Int), .int .u64 (i : Int)] 70)).alloc (.cells #[] 5)).drew := (((Below.refl _ _).alloc (Nat.le_refl _) _).alloc (by simp) _).drew
  have WO : ((w.alloc (.cells #[.int .u64 (l : Int), .int .u64 (i : Int)] 70)).alloc (.cells #[] 5)).drew.ownsRow w.heap.size 5 1 (.slice (some ⟨w.heap.size + 1, 0, none⟩) 0 0) 0 [] := by
    have := World.ownsRow_lit (base := w.heap.size) (e := 5) (size := 1) (w.alloc (.cells #[.int .u64 (l : Int), .int .u64 (i : Int)] 70)).drew #[] 0 (by simp [World.drew]) (by unfold maxLen; omega) rfl
    rw [show (w.alloc (.cells #[.int .u64 (l : Int), .int .u64 (i : Int)] 70)).drew.heap.size = w.heap.size + 1 by simp [World.drew]] at this
    exact this
  have HC := Lib.hid hc
  clear hu hu2 hnews hgv hus hul hl2 hn hown hbase hc
  go_enter Tryf.func49, Tryf.ntmps49
  go_wp2_with fail
  refine wp_region_E (fun w' => w'.cell? ⟨w.heap.size, 0, none⟩ = some (.int .u64 (l : Int)) ∧ w'.cell? ⟨w.heap.size, 1, none⟩ = some (.int .u64 (i : Int)) ∧ w'.cell? ⟨gv, 0, none⟩ = some (.slice Av S.length cv)) [12] (by kernel_rfl) S0 (fun hHeld => ?_)
  refine wpAnyE_take 0 [11, 12] (some 5) (v := .slice Av S.length cv) rfl rfl (by kernel_rfl) (by kernel_rfl) (by kernel_rfl) (by kernel_rfl) (by kernel_rfl) (by kernel_rfl) (fun _ _ _ h => h) (by rfl) hHeld ?_ ?_
  · intro W hS
    obtain ⟨_, _, _⟩ := hS
    go_simp
  simp only [Act.put, List.setIfInBounds_toArray, List.set_cons_zero, List.set_cons_succ]
  refine wpAnyE_take 1 [2, 5, 9, 10, 11, 12] (some 6) (v := .pointer (some ⟨w.heap.size, 0, none⟩)) rfl rfl (by kernel_rfl) (by kernel_rfl) (by kernel_rfl) (by kernel_rfl) (by kernel_rfl) (by kernel_rfl) (fun _ _ _ h => h) (by rfl) hHeld ?_ ?_
  · intro W hS
    obtain ⟨_, _, _⟩ := hS
    go_simp
  simp only [Act.put, List.setIfInBounds_toArray, List.set_cons_zero, List.set_cons_succ]
  refine wpAnyE_take 2 [5, 9, 10, 11, 12] (some 7) (v := .int .u64 (l : Int)) rfl rfl (by kernel_rfl) (by kernel_rfl) (by kernel_rfl) (by kernel_rfl) (by kernel_rfl) (by kernel_rfl) (fun _ _ _ h => h) (by rfl) hHeld ?_ ?_
  · intro W hS
    obtain ⟨_, _, _⟩ := hS
    go_simp
  simp only [Act.put, List.setIfInBounds_toArray, List.set_cons_zero, List.set_cons_succ]
  refine wpAnyE_take 3 [4, 5, 9, 10, 11, 12] (some 8) (v := .pointer (some ⟨w.heap.size, 1, none⟩)) rfl rfl (by kernel_rfl) (by kernel_rfl) (by kernel_rfl) (by kernel_rfl) (by kernel_rfl) (by kernel_rfl) (fun _ _ _ h => h) (by rfl) hHeld ?_ ?_
  · intro W hS
    obtain ⟨_, _, _⟩ := hS
    go_simp
  simp only [Act.put, List.setIfInBounds_toArray, List.set_cons_zero, List.set_cons_succ]
  refine wpAnyE_take 4 [5, 9, 10, 11, 12] (some 9) (v := .int .u64 (i : Int)) rfl rfl (by kernel_rfl) (by kernel_rfl) (by kernel_rfl) (by kernel_rfl) (by kernel_rfl) (by kernel_rfl) (fun _ _ _ h => h) (by rfl) hHeld ?_ ?_
  · intro W hS
    obtain ⟨_, _, _⟩ := hS
    go_simp
  simp only [Act.put, List.setIfInBounds_toArray, List.set_cons_zero, List.set_cons_succ]
  refine wpAnyE_take 5 [9, 10, 11, 12] (some 10) (v := .agg #[.int .u64 (l : Int), .int .u64 (i : Int)]) rfl rfl (by kernel_rfl) (by kernel_rfl) (by kernel_rfl) (by kernel_rfl) (by kernel_rfl) (by kernel_rfl) (fun _ _ _ h => h) (by rfl) hHeld ?_ ?_
  · intro W hS
    obtain ⟨_, _, _⟩ := hS
    go_simp
  simp only [Act.put, List.setIfInBounds_toArray, List.set_cons_zero, List.set_cons_succ]
  refine wpAnyE_take 7 [8, 9, 10, 11, 12] (some 12) (v := .slice (some ⟨gu, ou, none⟩) 2 c) rfl rfl (by kernel_rfl) (by kernel_rfl) (by kernel_rfl) (by kernel_rfl) (by kernel_rfl) (by kernel_rfl) (fun _ _ _ h => h) (by rfl) hHeld ?_ ?_
  · intro W hS
    obtain ⟨_, _, _⟩ := hS
    go_simp
  simp only [Act.put, List.setIfInBounds_toArray, List.set_cons_zero, List.set_cons_succ]
  refine wpAnyE_one 6 (by kernel_rfl) rfl (fun K hK => ?_)
  go_simp
  refine hK.out _ _ (fun _ => seen_step hHeld ((Below.refl _ _).alloc (Nat.le_refl _) _)) ?_
  clear hK K
  have hHeld := seen_step hHeld ((Below.refl _ _).alloc (Nat.le_refl _) (.cells #[] 5))
  have hHeld : ((w.alloc (.cells #[.int .u64 (l : Int), .int .u64 (i : Int)] 70)).alloc (.cells #[] 5)).drew.cell? ⟨w.heap.size, 0, none⟩ = some (.int .u64 (l : Int)) ∧ ((w.alloc (.cells #[.int .u64 (l : Int), .int .u64 (i : Int)] 70)).alloc (.cells #[] 5)).drew.cell? ⟨w.heap.size, 1, none⟩ = some (.int .u64 (i : Int)) ∧ ((w.alloc (.cells #[.int .u64 (l : Int), .int .u64 (i : Int)] 70)).alloc (.cells #[] 5)).drew.cell? ⟨gv, 0, none⟩ = some (.slice Av S.length cv) := hHeld
  generalize hW1 : ((w.alloc (.cells #[.int .u64 (l : Int), .int .u64 (i : Int)] 70)).alloc (.cells #[] 5)).drew = W1 at *
  refine wpAnyE_one 8 (by kernel_rfl) rfl (fun K hK => ?_)
  refine step_append_gen rfl 13 rfl (.tmp 11) (.tmp 12) 28 rfl w.heap.size 5 j0 (.int .u8 0) 1 1 Tryf.underlying28 hj hy0 hy1 hy2 rfl (by decide) (.slice (some ⟨w.heap.size + 1, 0, none⟩) 0 0) 0 [] WO rfl ⟨gu, ou, none⟩ 2 c (u8Cells hl) rfl (by simp [u8Cells, HL2.out]) (fun j u h => by
    obtain ⟨ad, e, h'⟩ := Hnews.out
    injection e with e; subst e
    have := h' j u h
    exact (BX.cell (World.block_lt_of_cell? w _ this)).trans this) (u8_one hl) (by unfold maxLen; omega) (by omega) BX.size ?_
  intro A1 c1 w1 hown1 hg1
  have B1 : Below w.heap.size W1 w1 := (Below.refl _ _).grown hg1 BX.size (fun k hk => (WO.lt k hk).1)
  have B2 : Below w.heap.size w w1 := BX.trans B1
  have hHeld : w1.cell? ⟨w.heap.size, 0, none⟩ = some (.int .u64 (l : Int)) ∧ w1.cell? ⟨w.heap.size, 1, none⟩ = some (.int .u64 (i : Int)) ∧ w1.cell? ⟨gv, 0, none⟩ = some (.slice Av S.length cv) := by
    obtain ⟨s1, s2, s3⟩ := hHeld
    have nb : ∀ p v, p.block ≠ w.heap.size + 1 → W1.cell? p = some v → w1.cell? p = some v := fun p v hp h => hg1.cell h (by simpa [Value.ownBlock] using hp)
    exact ⟨nb _ _ (by simp) s1, nb _ _ (by simp) s2, nb _ _ (by simp; omega) s3⟩
  refine hK.out _ _ (fun _ => hHeld) ?_
  clear hK K
  simp only [Act.put, List.setIfInBounds_toArray, List.set_cons_zero, List.set_cons_succ]
  refine wpAnyE_take 9 [10, 11, 12] (some 14) (v := .agg #[.int .u64 (l : Int), .int .u64 (i : Int), .slice A1 (0 + 2) c1]) rfl rfl (by kernel_rfl) (by kernel_rfl) (by kernel_rfl) (by kernel_rfl) (by kernel_rfl) (by kernel_rfl) (fun _ _ _ h => h) (by rfl) hHeld ?_ ?_
  · intro W hS
    go_simp
  simp only [Act.put, List.setIfInBounds_toArray, List.set_cons_zero, List.set_cons_succ]
  refine wpAnyE_one 10 (by kernel_rfl) rfl (fun K hK => ?_)
  go_simp
  refine hK.out _ _ (fun _ => seen_step hHeld ((Below.refl _ _).alloc (Nat.le_refl _) _)) ?_
  clear hK K
  have hHeld := seen_step hHeld ((Below.refl _ _).alloc (Nat.le_refl _) (.cells #[.int .u64 (l : Int), .int .u64 (i : Int), .slice A1 2 c1] 47))
  have B3 : Below w.heap.size w (w1.alloc (.cells #[.int .u64 (l : Int), .int .u64 (i : Int), .slice A1 2 c1] 47)) := B2.alloc B2.size _
  refine wpAnyE_one 11 (by kernel_rfl) rfl (fun K hK => ?_)
  refine step_append_gen rfl 16 rfl (.tmp 5) (.tmp 15) 29 rfl base 47 i0 (.agg #[.int .u64 0, .int .u64 0, .slice none 0 0]) 3 40 Tryf.underlying29 hi hz0 hz1 hz2 rfl (by decide) (.slice Av S.length cv) S.length (seenCells S us) (own_below HOWN.out B3) rfl ⟨w1.heap.size, 0, none⟩ 1 1 [.int .u64 (l : Int), .int .u64 (i : Int), .slice A1 2 c1] rfl rfl (fun j u h => seen_cells _ _ j u h) (seen_one _ _ _ _ _) (by have := HN.out; unfold maxLen; omega) (by have := HN.out; omega) (by have := HB.out; have := B3.size; omega) ?_
  intro A2 c2 w2 hown2 hg2
  have HG3 : Blk (w1.alloc (.cells #[.int .u64 (l : Int), .int .u64 (i : Int), .slice A1 2 c1] 47)) gv 29 #[.slice Av S.length cv] := HG.out.below' B3
  have hne3 := own_ne (own_below HOWN.out B3) HG3 (by decide)
  have HG2 : Blk w2 gv 29 #[.slice Av S.length cv] := (hg2.block gv HG3.lt hne3).trans HG3
  have hHeld : w2.cell? ⟨w.heap.size, 0, none⟩ = some (.int .u64 (l : Int)) ∧ w2.cell? ⟨w.heap.size, 1, none⟩ = some (.int .u64 (i : Int)) ∧ w2.cell? ⟨gv, 0, none⟩ = some (.slice Av S.length cv) := by
    obtain ⟨s1, s2, s3⟩ := hHeld
    have nb : some w.heap.size ≠ (Value.slice Av S.length cv).ownBlock := fun e => by
      have := (HOWN.out.lt _ e.symm).2
      omega
    exact ⟨hg2.cell s1 nb, hg2.cell s2 nb, hg2.cell s3 hne3⟩
  refine hK.out _ _ (fun _ => hHeld) ?_
  clear hK K
  simp only [Act.put, List.setIfInBounds_toArray, List.set_cons_zero, List.set_cons_succ]
  have hc2 := HG2.cell 0
  have hfz2 := HG2.frozen 0
  refine wpAnyE_one 12 (by kernel_rfl) rfl (fun K hK => ?_)
  go_simp
  refine hK.out _ _ (fun h => absurd (by simp) h) ?_
  clear hK K
  refine wpAnyE_done (by kernel_rfl) ?_ _
  have e1 : w1.ownsRow w.heap.size 5 1 (.slice A1 2 c1) hl.length (u8Cells hl) := by
    rw [HL2.out]
    simpa using hown1
  have FIN := visit_fin (gv := gv) (k := 0) (cs := #[.slice Av S.length cv]) (l := l) (i := i) HUL.out HUS.out HG.out (by decide) (by decide) HB.out HOWN.out B3 ((BytesT.of_own e1 HY.out).below ((Below.refl _ _).alloc (Nat.le_refl _) _)) hown2 hg2
  go_end0
  exact ⟨rfl, _, FIN⟩
set_option maxHeartbeats 2000000 in
theorem appVisit (l i : Nat) (gu ou c : Nat) (hl : List Nat) (gv base : Nat) (S : List SeenN) (av : Value) (w : World) (hu : BytesT w (.slice (some ⟨gu, ou, none⟩) 2 c) hl) (hl2 : hl.length = 2) (hS : SeenB w base av S) (hgv : Blk w gv 29 #[av]) (hn : S.length ≤ 1000000) (hbase : base ≤ gv) :
    Calls Tryf.prog 38 #[.agg #[.int .u64 (l : Int), .int .u64 (i : Int)], .slice (some ⟨gu, ou, none⟩) 2 c, .pointer (some ⟨gv, 0, none⟩)] w (Visited w base gv 0 29 #[av] S (l, i, hl)) := by
  obtain ⟨i0, hi, hz0, hz1, hz2⟩ := info_parts seenInfo
  obtain ⟨j0, hj, hy0, hy1, hy2⟩ := info_parts u8Info
  have hlt : gv < w.heap.size := hgv.lt
  obtain ⟨us, hul, hown, hus⟩ := hS
  have hc : w.cell? ⟨gv, 0, none⟩ = some av := hgv.cell 0
  have hfz : w.frozen? ⟨gv, 0, none⟩ = false := hgv.frozen 0
  obtain ⟨hu2, hnews⟩ := BytesR.news hu.1
  have Hnews := Lib.hid (hnews (by decide))
  have HY := Lib.hid hu.1.bytes
  have HG := Lib.hid hgv
  have HUS := Lib.hid hus
  have HUL := Lib.hid hul
  have HN := Lib.hid hn
  have HL2 := Lib.hid hl2
  have HOWN := Lib.hid hown
  have HB := Lib.hid hbase
  obtain ⟨Av, cv, rfl, _⟩ := own_slice hown
  have hne1 : ¬ gv = w.heap.size := by omega
  have hne2 : ¬ w.heap.size = gv := by omega
  have B0 : Below w.heap.size w (w.alloc (.cells #[.int .u64 (l : Int), .int .u64 (i : Int)] 70)).drew := ((Below.refl _ _).alloc (Nat.le_refl _) _).drew
  have S0 : (w.alloc (.cells #[.int .u64 (l : Int), .int .u64 (i : Int)] 70)).drew.cell? ⟨w.heap.size, 0, none⟩ = some (.int .u64 (l : Int)) ∧ (w.alloc (.cells #[.int .u64 (l : Int), .int .u64 (i : Int)] 70)).drew.cell? ⟨w.heap.size, 1, none⟩ = some (.int .u64 (i : Int)) ∧ (w.alloc (.cells #[.int .u64 (l : Int), .int .u64 (i : Int)] 70)).drew.cell? ⟨gv, 0, none⟩ = some (.slice Av S.length cv) := ⟨by simp, by simp, B0.cell hlt |>.trans hc⟩
  have BX : Below w.heap.size w ((w.alloc (.cells #[.int .u64 (l : Int), .int .u64 (i : Int)] 70)).alloc (.cells #[] 5)).drew := (((Below.refl _ _).alloc (Nat.le_refl _) _).alloc (by simp) _).drew
  have WO : ((w.alloc (.cells #[.int .u64 (l : Int), .int .u64 (i : Int)] 70)).alloc (.cells #[] 5)).drew.ownsRow w.heap.size 5 1 (.slice (some ⟨w.heap.size + 1, 0, none⟩) 0 0) 0 [] := by
    have := World.ownsRow_lit (base := w.heap.size) (e := 5) (size := 1) (w.alloc (.cells #[.int .u64 (l : Int), .int .u64 (i : Int)] 70)).drew #[] 0 (by simp [World.drew]) (by unfold maxLen; omega) rfl
    rw [show (w.alloc (.cells #[.int .u64 (l : Int), .int .u64 (i : Int)] 70)).drew.heap.size = w.heap.size + 1 by simp [World.drew]] at this
    exact this
  have HC := Lib.hid hc
  clear hu hu2 hnews hgv hus hul hl2 hn hown hbase hc
  go_enter Tryf.func38, Tryf.ntmps38
  go_wp2_with fail
  refine wp_region_E (fun w' => w'.cell? ⟨w.heap.size, 0, none⟩ = some (.int .u64 (l : Int)) ∧ w'.cell? ⟨w.heap.size, 1, none⟩ = some (.int .u64 (i : Int)) ∧ w'.cell? ⟨gv, 0, none⟩ = some (.slice Av S.length cv)) [12] (by kernel_rfl) S0 (fun hHeld => ?_)
  refine wpAnyE_take 0 [11, 12] (some 5) (v := .slice Av S.length cv) rfl rfl (by kernel_rfl) (by kernel_rfl) (by kernel_rfl) (by kernel_rfl) (by kernel_rfl) (by kernel_rfl) (fun _ _ _ h => h) (by rfl) hHeld ?_ ?_
  · intro W hS
    obtain ⟨_, _, _⟩ := hS
    go_simp
  simp only [Act.put, List.setIfInBounds_toArray, List.set_cons_zero, List.set_cons_succ]
  refine wpAnyE_take 1 [2, 5, 9, 10, 11, 12] (some 6) (v := .pointer (some ⟨w.heap.size, 0, none⟩)) rfl rfl (by kernel_rfl) (by kernel_rfl) (by kernel_rfl) (by kernel_rfl) (by kernel_rfl) (by kernel_rfl) (fun _ _ _ h => h) (by rfl) hHeld ?_ ?_
  · intro W hS
    obtain ⟨_, _, _⟩ := hS
    go_simp
  simp only [Act.put, List.setIfInBounds_toArray, List.set_cons_zero, List.set_cons_succ]
  refine wpAnyE_take 2 [5, 9, 10, 11, 12] (some 7) (v := .int .u64 (l : Int)) rfl rfl (by kernel_rfl) (by kernel_rfl) (by kernel_rfl) (by kernel_rfl) (by kernel_rfl) (by kernel_rfl) (fun _ _ _ h => h) (by rfl) hHeld ?_ ?_
  · intro W hS
    obtain ⟨_, _, _⟩ := hS
    go_simp
  simp only [Act.put, List.setIfInBounds_toArray, List.set_cons_zero, List.set_cons_succ]
  refine wpAnyE_take 3 [4, 5, 9, 10, 11, 12] (some 8) (v := .pointer (some ⟨w.heap.size, 1, none⟩)) rfl rfl (by kernel_rfl) (by kernel_rfl) (by kernel_rfl) (by kernel_rfl) (by kernel_rfl) (by kernel_rfl) (fun _ _ _ h => h) (by rfl) hHeld ?_ ?_
  · intro W hS
    obtain ⟨_, _, _⟩ := hS
    go_simp
  simp only [Act.put, List.setIfInBounds_toArray, List.set_cons_zero, List.set_cons_succ]
  refine wpAnyE_take 4 [5, 9, 10, 11, 12] (some 9) (v := .int .u64 (i : Int)) rfl rfl (by kernel_rfl) (by kernel_rfl) (by kernel_rfl) (by kernel_rfl) (by kernel_rfl) (by kernel_rfl) (fun _ _ _ h => h) (by rfl) hHeld ?_ ?_
  · intro W hS
    obtain ⟨_, _, _⟩ := hS
    go_simp
  simp only [Act.put, List.setIfInBounds_toArray, List.set_cons_zero, List.set_cons_succ]
  refine wpAnyE_take 5 [9, 10, 11, 12] (some 10) (v := .agg #[.int .u64 (l : Int), .int .u64 (i : Int)]) rfl rfl (by kernel_rfl) (by kernel_rfl) (by kernel_rfl) (by kernel_rfl) (by kernel_rfl) (by kernel_rfl) (fun _ _ _ h => h) (by rfl) hHeld ?_ ?_
  · intro W hS
    obtain ⟨_, _, _⟩ := hS
    go_simp
  simp only [Act.put, List.setIfInBounds_toArray, List.set_cons_zero, List.set_cons_succ]
  refine wpAnyE_take 7 [8, 9, 10, 11, 12] (some 12) (v := .slice (some ⟨gu, ou, none⟩) 2 c) rfl rfl (by kernel_rfl) (by kernel_rfl) (by kernel_rfl) (by kernel_rfl) (by kernel_rfl) (by kernel_rfl) (fun _ _ _ h => h) (by rfl) hHeld ?_ ?_
  · intro W hS
    obtain ⟨_, _, _⟩ := hS
    go_simp
  simp only [Act.put, List.setIfInBounds_toArray, List.set_cons_zero, List.set_cons_succ]
  refine wpAnyE_one 6 (by kernel_rfl) rfl (fun K hK => ?_)
  go_simp
  refine hK.out _ _ (fun _ => seen_step hHeld ((Below.refl _ _).alloc (Nat.le_refl _) _)) ?_
  clear hK K
  have hHeld := seen_step hHeld ((Below.refl _ _).alloc (Nat.le_refl _) (.cells #[] 5))
  have hHeld : ((w.alloc (.cells #[.int .u64 (l : Int), .int .u64 (i : Int)] 70)).alloc (.cells #[] 5)).drew.cell? ⟨w.heap.size, 0, none⟩ = some (.int .u64 (l : Int)) ∧ ((w.alloc (.cells #[.int .u64 (l : Int), .int .u64 (i : Int)] 70)).alloc (.cells #[] 5)).drew.cell? ⟨w.heap.size, 1, none⟩ = some (.int .u64 (i : Int)) ∧ ((w.alloc (.cells #[.int .u64 (l : Int), .int .u64 (i : Int)] 70)).alloc (.cells #[] 5)).drew.cell? ⟨gv, 0, none⟩ = some (.slice Av S.length cv) := hHeld
  generalize hW1 : ((w.alloc (.cells #[.int .u64 (l : Int), .int .u64 (i : Int)] 70)).alloc (.cells #[] 5)).drew = W1 at *
  refine wpAnyE_one 8 (by kernel_rfl) rfl (fun K hK => ?_)
  refine step_append_gen rfl 13 rfl (.tmp 11) (.tmp 12) 28 rfl w.heap.size 5 j0 (.int .u8 0) 1 1 Tryf.underlying28 hj hy0 hy1 hy2 rfl (by decide) (.slice (some ⟨w.heap.size + 1, 0, none⟩) 0 0) 0 [] WO rfl ⟨gu, ou, none⟩ 2 c (u8Cells hl) rfl (by simp [u8Cells, HL2.out]) (fun j u h => by
    obtain ⟨ad, e, h'⟩ := Hnews.out
    injection e with e; subst e
    have := h' j u h
    exact (BX.cell (World.block_lt_of_cell? w _ this)).trans this) (u8_one hl) (by unfold maxLen; omega) (by omega) BX.size ?_
  intro A1 c1 w1 hown1 hg1
  have B1 : Below w.heap.size W1 w1 := (Below.refl _ _).grown hg1 BX.size (fun k hk => (WO.lt k hk).1)
  have B2 : Below w.heap.size w w1 := BX.trans B1
  have hHeld : w1.cell? ⟨w.heap.size, 0, none⟩ = some (.int .u64 (l : Int)) ∧ w1.cell? ⟨w.heap.size, 1, none⟩ = some (.int .u64 (i : Int)) ∧ w1.cell? ⟨gv, 0, none⟩ = some (.slice Av S.length cv) := by
    obtain ⟨s1, s2, s3⟩ := hHeld
    have nb : ∀ p v, p.block ≠ w.heap.size + 1 → W1.cell? p = some v → w1.cell? p = some v := fun p v hp h => hg1.cell h (by simpa [Value.ownBlock] using hp)
    exact ⟨nb _ _ (by simp) s1, nb _ _ (by simp) s2, nb _ _ (by simp; omega) s3⟩
  refine hK.out _ _ (fun _ => hHeld) ?_
  clear hK K
  simp only [Act.put, List.setIfInBounds_toArray, List.set_cons_zero, List.set_cons_succ]
  refine wpAnyE_take 9 [10, 11, 12] (some 14) (v := .agg #[.int .u64 (l : Int), .int .u64 (i : Int), .slice A1 (0 + 2) c1]) rfl rfl (by kernel_rfl) (by kernel_rfl) (by kernel_rfl) (by kernel_rfl) (by kernel_rfl) (by kernel_rfl) (fun _ _ _ h => h) (by rfl) hHeld ?_ ?_
  · intro W hS
    go_simp
  simp only [Act.put, List.setIfInBounds_toArray, List.set_cons_zero, List.set_cons_succ]
  refine wpAnyE_one 10 (by kernel_rfl) rfl (fun K hK => ?_)
  go_simp
  refine hK.out _ _ (fun _ => seen_step hHeld ((Below.refl _ _).alloc (Nat.le_refl _) _)) ?_
  clear hK K
  have hHeld := seen_step hHeld ((Below.refl _ _).alloc (Nat.le_refl _) (.cells #[.int .u64 (l : Int), .int .u64 (i : Int), .slice A1 2 c1] 47))
  have B3 : Below w.heap.size w (w1.alloc (.cells #[.int .u64 (l : Int), .int .u64 (i : Int), .slice A1 2 c1] 47)) := B2.alloc B2.size _
  refine wpAnyE_one 11 (by kernel_rfl) rfl (fun K hK => ?_)
  refine step_append_gen rfl 16 rfl (.tmp 5) (.tmp 15) 29 rfl base 47 i0 (.agg #[.int .u64 0, .int .u64 0, .slice none 0 0]) 3 40 Tryf.underlying29 hi hz0 hz1 hz2 rfl (by decide) (.slice Av S.length cv) S.length (seenCells S us) (own_below HOWN.out B3) rfl ⟨w1.heap.size, 0, none⟩ 1 1 [.int .u64 (l : Int), .int .u64 (i : Int), .slice A1 2 c1] rfl rfl (fun j u h => seen_cells _ _ j u h) (seen_one _ _ _ _ _) (by have := HN.out; unfold maxLen; omega) (by have := HN.out; omega) (by have := HB.out; have := B3.size; omega) ?_
  intro A2 c2 w2 hown2 hg2
  have HG3 : Blk (w1.alloc (.cells #[.int .u64 (l : Int), .int .u64 (i : Int), .slice A1 2 c1] 47)) gv 29 #[.slice Av S.length cv] := HG.out.below' B3
  have hne3 := own_ne (own_below HOWN.out B3) HG3 (by decide)
  have HG2 : Blk w2 gv 29 #[.slice Av S.length cv] := (hg2.block gv HG3.lt hne3).trans HG3
  have hHeld : w2.cell? ⟨w.heap.size, 0, none⟩ = some (.int .u64 (l : Int)) ∧ w2.cell? ⟨w.heap.size, 1, none⟩ = some (.int .u64 (i : Int)) ∧ w2.cell? ⟨gv, 0, none⟩ = some (.slice Av S.length cv) := by
    obtain ⟨s1, s2, s3⟩ := hHeld
    have nb : some w.heap.size ≠ (Value.slice Av S.length cv).ownBlock := fun e => by
      have := (HOWN.out.lt _ e.symm).2
      omega
    exact ⟨hg2.cell s1 nb, hg2.cell s2 nb, hg2.cell s3 hne3⟩
  refine hK.out _ _ (fun _ => hHeld) ?_
  clear hK K
  simp only [Act.put, List.setIfInBounds_toArray, List.set_cons_zero, List.set_cons_succ]
  have hc2 := HG2.cell 0
  have hfz2 := HG2.frozen 0
  refine wpAnyE_one 12 (by kernel_rfl) rfl (fun K hK => ?_)
  go_simp
  refine hK.out _ _ (fun h => absurd (by simp) h) ?_
  clear hK K
  refine wpAnyE_done (by kernel_rfl) ?_ _
  have e1 : w1.ownsRow w.heap.size 5 1 (.slice A1 2 c1) hl.length (u8Cells hl) := by
    rw [HL2.out]
    simpa using hown1
  have FIN := visit_fin (gv := gv) (k := 0) (cs := #[.slice Av S.length cv]) (l := l) (i := i) HUL.out HUS.out HG.out (by decide) (by decide) HB.out HOWN.out B3 ((BytesT.of_own e1 HY.out).below ((Below.refl _ _).alloc (Nat.le_refl _) _)) hown2 hg2
  go_end0
  exact ⟨rfl, _, FIN⟩
set_option maxHeartbeats 2000000 in
theorem rootVisit (l i : Nat) (gu ou c : Nat) (hl : List Nat) (gv base : Nat) (S : List SeenN) (av : Value) (y0 y1 y2 y3 y4 y5 : Value) (w : World) (hu : BytesT w (.slice (some ⟨gu, ou, none⟩) 2 c) hl) (hl2 : hl.length = 2) (hS : SeenB w base av S) (hgv : Blk w gv 31 #[y0, y1, y2, y3, y4, y5, av]) (hn : S.length ≤ 1000000) (hbase : base ≤ gv) :
    Calls Tryf.prog 47 #[.agg #[.int .u64 (l : Int), .int .u64 (i : Int)], .slice (some ⟨gu, ou, none⟩) 2 c, .pointer (some ⟨gv, 0, none⟩)] w (Visited w base gv 6 31 #[y0, y1, y2, y3, y4, y5, av] S (l, i, hl)) := by
  obtain ⟨i0, hi, hz0, hz1, hz2⟩ := info_parts seenInfo
  obtain ⟨j0, hj, hy0, hy1, hy2⟩ := info_parts u8Info
  have hlt : gv < w.heap.size := hgv.lt
  obtain ⟨us, hul, hown, hus⟩ := hS
  have hc : w.cell? ⟨gv, 6, none⟩ = some av := hgv.cell 6
  have hfz : w.frozen? ⟨gv, 6, none⟩ = false := hgv.frozen 6
  obtain ⟨hu2, hnews⟩ := BytesR.news hu.1
  have Hnews := Lib.hid (hnews (by decide))
  have HY := Lib.hid hu.1.bytes
  have HG := Lib.hid hgv
  have HUS := Lib.hid hus
  have HUL := Lib.hid hul
  have HN := Lib.hid hn
  have HL2 := Lib.hid hl2
  have HOWN := Lib.hid hown
  have HB := Lib.hid hbase
  obtain ⟨Av, cv, rfl, _⟩ := own_slice hown
  have hne1 : ¬ gv = w.heap.size := by omega
  have hne2 : ¬ w.heap.size = gv := by omega
  have B0 : Below w.heap.size w (w.alloc (.cells #[.int .u64 (l : Int), .int .u64 (i : Int)] 70)).drew := ((Below.refl _ _).alloc (Nat.le_refl _) _).drew
  have S0 : (w.alloc (.cells #[.int .u64 (l : Int), .int .u64 (i : Int)] 70)).drew.cell? ⟨w.heap.size, 0, none⟩ = some (.int .u64 (l : Int)) ∧ (w.alloc (.cells #[.int .u64 (l : Int), .int .u64 (i : Int)] 70)).drew.cell? ⟨w.heap.size, 1, none⟩ = some (.int .u64 (i : Int)) ∧ (w.alloc (.cells #[.int .u64 (l : Int), .int .u64 (i : Int)] 70)).drew.cell? ⟨gv, 6, none⟩ = some (.slice Av S.length cv) := ⟨by simp, by simp, B0.cell hlt |>.trans hc⟩
  have BX : Below w.heap.size w ((w.alloc (.cells #[.int .u64 (l : Int), .int .u64 (i : Int)] 70)).alloc (.cells #[] 5)).drew := (((Below.refl _ _).alloc (Nat.le_refl _) _).alloc (by simp) _).drew
  have WO : ((w.alloc (.cells #[.int .u64 (l : Int), .int .u64 (i : Int)] 70)).alloc (.cells #[] 5)).drew.ownsRow w.heap.size 5 1 (.slice (some ⟨w.heap.size + 1, 0, none⟩) 0 0) 0 [] := by
    have := World.ownsRow_lit (base := w.heap.size) (e := 5) (size := 1) (w.alloc (.cells #[.int .u64 (l : Int), .int .u64 (i : Int)] 70)).drew #[] 0 (by simp [World.drew]) (by unfold maxLen; omega) rfl
    rw [show (w.alloc (.cells #[.int .u64 (l : Int), .int .u64 (i : Int)] 70)).drew.heap.size = w.heap.size + 1 by simp [World.drew]] at this
    exact this
  have HC := Lib.hid hc
  clear hu hu2 hnews hgv hus hul hl2 hn hown hbase hc
  go_enter Tryf.func47, Tryf.ntmps47
  go_wp2_with fail
  refine wp_region_E (fun w' => w'.cell? ⟨w.heap.size, 0, none⟩ = some (.int .u64 (l : Int)) ∧ w'.cell? ⟨w.heap.size, 1, none⟩ = some (.int .u64 (i : Int)) ∧ w'.cell? ⟨gv, 6, none⟩ = some (.slice Av S.length cv)) [13, 14] (by kernel_rfl) S0 (fun hHeld => ?_)
  refine wpAnyE_take 0 [1, 12, 13, 14] (some 5) (v := .pointer (some ⟨gv, 6, none⟩)) rfl rfl (by kernel_rfl) (by kernel_rfl) (by kernel_rfl) (by kernel_rfl) (by kernel_rfl) (by kernel_rfl) (fun _ _ _ h => h) (by rfl) hHeld ?_ ?_
  · intro W hS
    obtain ⟨_, _, _⟩ := hS
    go_simp
  simp only [Act.put, List.setIfInBounds_toArray, List.set_cons_zero, List.set_cons_succ]
  refine wpAnyE_take 1 [12, 13, 14] (some 6) (v := .slice Av S.length cv) rfl rfl (by kernel_rfl) (by kernel_rfl) (by kernel_rfl) (by kernel_rfl) (by kernel_rfl) (by kernel_rfl) (fun _ _ _ h => h) (by rfl) hHeld ?_ ?_
  · intro W hS
    obtain ⟨_, _, _⟩ := hS
    go_simp
  simp only [Act.put, List.setIfInBounds_toArray, List.set_cons_zero, List.set_cons_succ]
  refine wpAnyE_take 2 [3, 6, 10, 11, 12, 13, 14] (some 7) (v := .pointer (some ⟨w.heap.size, 0, none⟩)) rfl rfl (by kernel_rfl) (by kernel_rfl) (by kernel_rfl) (by kernel_rfl) (by kernel_rfl) (by kernel_rfl) (fun _ _ _ h => h) (by rfl) hHeld ?_ ?_
  · intro W hS
    obtain ⟨_, _, _⟩ := hS
    go_simp
  simp only [Act.put, List.setIfInBounds_toArray, List.set_cons_zero, List.set_cons_succ]
  refine wpAnyE_take 3 [6, 10, 11, 12, 13, 14] (some 8) (v := .int .u64 (l : Int)) rfl rfl (by kernel_rfl) (by kernel_rfl) (by kernel_rfl) (by kernel_rfl) (by kernel_rfl) (by kernel_rfl) (fun _ _ _ h => h) (by rfl) hHeld ?_ ?_
  · intro W hS
    obtain ⟨_, _, _⟩ := hS
    go_simp
  simp only [Act.put, List.setIfInBounds_toArray, List.set_cons_zero, List.set_cons_succ]
  refine wpAnyE_take 4 [5, 6, 10, 11, 12, 13, 14] (some 9) (v := .pointer (some ⟨w.heap.size, 1, none⟩)) rfl rfl (by kernel_rfl) (by kernel_rfl) (by kernel_rfl) (by kernel_rfl) (by kernel_rfl) (by kernel_rfl) (fun _ _ _ h => h) (by rfl) hHeld ?_ ?_
  · intro W hS
    obtain ⟨_, _, _⟩ := hS
    go_simp
  simp only [Act.put, List.setIfInBounds_toArray, List.set_cons_zero, List.set_cons_succ]
  refine wpAnyE_take 5 [6, 10, 11, 12, 13, 14] (some 10) (v := .int .u64 (i : Int)) rfl rfl (by kernel_rfl) (by kernel_rfl) (by kernel_rfl) (by kernel_rfl) (by kernel_rfl) (by kernel_rfl) (fun _ _ _ h => h) (by rfl) hHeld ?_ ?_
  · intro W hS
    obtain ⟨_, _, _⟩ := hS
    go_simp
  simp only [Act.put, List.setIfInBounds_toArray, List.set_cons_zero, List.set_cons_succ]
  refine wpAnyE_take 6 [10, 11, 12, 13, 14] (some 11) (v := .agg #[.int .u64 (l : Int), .int .u64 (i : Int)]) rfl rfl (by kernel_rfl) (by kernel_rfl) (by kernel_rfl) (by kernel_rfl) (by kernel_rfl) (by kernel_rfl) (fun _ _ _ h => h) (by rfl) hHeld ?_ ?_
  · intro W hS
    obtain ⟨_, _, _⟩ := hS
    go_simp
  simp only [Act.put, List.setIfInBounds_toArray, List.set_cons_zero, List.set_cons_succ]
  refine wpAnyE_take 8 [9, 10, 11, 12, 13, 14] (some 13) (v := .slice (some ⟨gu, ou, none⟩) 2 c) rfl rfl (by kernel_rfl) (by kernel_rfl) (by kernel_rfl) (by kernel_rfl) (by kernel_rfl) (by kernel_rfl) (fun _ _ _ h => h) (by rfl) hHeld ?_ ?_
  · intro W hS
    obtain ⟨_, _, _⟩ := hS
    go_simp
  simp only [Act.put, List.setIfInBounds_toArray, List.set_cons_zero, List.set_cons_succ]
  refine wpAnyE_one 7 (by kernel_rfl) rfl (fun K hK => ?_)
  go_simp
  refine hK.out _ _ (fun _ => seen_step hHeld ((Below.refl _ _).alloc (Nat.le_refl _) _)) ?_
  clear hK K
  have hHeld := seen_step hHeld ((Below.refl _ _).alloc (Nat.le_refl _) (.cells #[] 5))
  have hHeld : ((w.alloc (.cells #[.int .u64 (l : Int), .int .u64 (i : Int)] 70)).alloc (.cells #[] 5)).drew.cell? ⟨w.heap.size, 0, none⟩ = some (.int .u64 (l : Int)) ∧ ((w.alloc (.cells #[.int .u64 (l : Int), .int .u64 (i : Int)] 70)).alloc (.cells #[] 5)).drew.cell? ⟨w.heap.size, 1, none⟩ = some (.int .u64 (i : Int)) ∧ ((w.alloc (.cells #[.int .u64 (l : Int), .int .u64 (i : Int)] 70)).alloc (.cells #[] 5)).drew.cell? ⟨gv, 6, none⟩ = some (.slice Av S.length cv) := hHeld
  generalize hW1 : ((w.alloc (.cells #[.int .u64 (l : Int), .int .u64 (i : Int)] 70)).alloc (.cells #[] 5)).drew = W1 at *
  refine wpAnyE_one 9 (by kernel_rfl) rfl (fun K hK => ?_)
  refine step_append_gen rfl 14 rfl (.tmp 12) (.tmp 13) 28 rfl w.heap.size 5 j0 (.int .u8 0) 1 1 Tryf.underlying28 hj hy0 hy1 hy2 rfl (by decide) (.slice (some ⟨w.heap.size + 1, 0, none⟩) 0 0) 0 [] WO rfl ⟨gu, ou, none⟩ 2 c (u8Cells hl) rfl (by simp [u8Cells, HL2.out]) (fun j u h => by
    obtain ⟨ad, e, h'⟩ := Hnews.out
    injection e with e; subst e
    have := h' j u h
    exact (BX.cell (World.block_lt_of_cell? w _ this)).trans this) (u8_one hl) (by unfold maxLen; omega) (by omega) BX.size ?_
  intro A1 c1 w1 hown1 hg1
  have B1 : Below w.heap.size W1 w1 := (Below.refl _ _).grown hg1 BX.size (fun k hk => (WO.lt k hk).1)
  have B2 : Below w.heap.size w w1 := BX.trans B1
  have hHeld : w1.cell? ⟨w.heap.size, 0, none⟩ = some (.int .u64 (l : Int)) ∧ w1.cell? ⟨w.heap.size, 1, none⟩ = some (.int .u64 (i : Int)) ∧ w1.cell? ⟨gv, 6, none⟩ = some (.slice Av S.length cv) := by
    obtain ⟨s1, s2, s3⟩ := hHeld
    have nb : ∀ p v, p.block ≠ w.heap.size + 1 → W1.cell? p = some v → w1.cell? p = some v := fun p v hp h => hg1.cell h (by simpa [Value.ownBlock] using hp)
    exact ⟨nb _ _ (by simp) s1, nb _ _ (by simp) s2, nb _ _ (by simp; omega) s3⟩
  refine hK.out _ _ (fun _ => hHeld) ?_
  clear hK K
  simp only [Act.put, List.setIfInBounds_toArray, List.set_cons_zero, List.set_cons_succ]
  refine wpAnyE_take 10 [11, 12, 13, 14] (some 15) (v := .agg #[.int .u64 (l : Int), .int .u64 (i : Int), .slice A1 (0 + 2) c1]) rfl rfl (by kernel_rfl) (by kernel_rfl) (by kernel_rfl) (by kernel_rfl) (by kernel_rfl) (by kernel_rfl) (fun _ _ _ h => h) (by rfl) hHeld ?_ ?_
  · intro W hS
    go_simp
  simp only [Act.put, List.setIfInBounds_toArray, List.set_cons_zero, List.set_cons_succ]
  refine wpAnyE_one 11 (by kernel_rfl) rfl (fun K hK => ?_)
  go_simp
  refine hK.out _ _ (fun _ => seen_step hHeld ((Below.refl _ _).alloc (Nat.le_refl _) _)) ?_
  clear hK K
  have hHeld := seen_step hHeld ((Below.refl _ _).alloc (Nat.le_refl _) (.cells #[.int .u64 (l : Int), .int .u64 (i : Int), .slice A1 2 c1] 47))
  have B3 : Below w.heap.size w (w1.alloc (.cells #[.int .u64 (l : Int), .int .u64 (i : Int), .slice A1 2 c1] 47)) := B2.alloc B2.size _
  refine wpAnyE_one 12 (by kernel_rfl) rfl (fun K hK => ?_)
  refine step_append_gen rfl 17 rfl (.tmp 6) (.tmp 16) 29 rfl base 47 i0 (.agg #[.int .u64 0, .int .u64 0, .slice none 0 0]) 3 40 Tryf.underlying29 hi hz0 hz1 hz2 rfl (by decide) (.slice Av S.length cv) S.length (seenCells S us) (own_below HOWN.out B3) rfl ⟨w1.heap.size, 0, none⟩ 1 1 [.int .u64 (l : Int), .int .u64 (i : Int), .slice A1 2 c1] rfl rfl (fun j u h => seen_cells _ _ j u h) (seen_one _ _ _ _ _) (by have := HN.out; unfold maxLen; omega) (by have := HN.out; omega) (by have := HB.out; have := B3.size; omega) ?_
  intro A2 c2 w2 hown2 hg2
  have HG3 : Blk (w1.alloc (.cells #[.int .u64 (l : Int), .int .u64 (i : Int), .slice A1 2 c1] 47)) gv 31 #[y0, y1, y2, y3, y4, y5, .slice Av S.length cv] := HG.out.below' B3
  have hne3 := own_ne (own_below HOWN.out B3) HG3 (by decide)
  have HG2 : Blk w2 gv 31 #[y0, y1, y2, y3, y4, y5, .slice Av S.length cv] := (hg2.block gv HG3.lt hne3).trans HG3
  have hHeld : w2.cell? ⟨w.heap.size, 0, none⟩ = some (.int .u64 (l : Int)) ∧ w2.cell? ⟨w.heap.size, 1, none⟩ = some (.int .u64 (i : Int)) ∧ w2.cell? ⟨gv, 6, none⟩ = some (.slice Av S.length cv) := by
    obtain ⟨s1, s2, s3⟩ := hHeld
    have nb : some w.heap.size ≠ (Value.slice Av S.length cv).ownBlock := fun e => by
      have := (HOWN.out.lt _ e.symm).2
      omega
    exact ⟨hg2.cell s1 nb, hg2.cell s2 nb, hg2.cell s3 hne3⟩
  refine hK.out _ _ (fun _ => hHeld) ?_
  clear hK K
  simp only [Act.put, List.setIfInBounds_toArray, List.set_cons_zero, List.set_cons_succ]
  have hc2 := HG2.cell 6
  have hfz2 := HG2.frozen 6
  refine wpAnyE_one 13 (by kernel_rfl) rfl (fun K hK => ?_)
  go_simp
  refine hK.out _ _ (fun h => absurd (by simp) h) ?_
  clear hK K
  refine wpAnyE_one 14 (by kernel_rfl) rfl (fun K hK => ?_)
  go_simp
  refine hK.out _ _ (fun h => absurd (by simp) h) ?_
  clear hK K
  refine wpAnyE_done (by kernel_rfl) ?_ _
  have e1 : w1.ownsRow w.heap.size 5 1 (.slice A1 2 c1) hl.length (u8Cells hl) := by
    rw [HL2.out]
    simpa using hown1
  have FIN := visit_fin (gv := gv) (k := 6) (cs := #[y0, y1, y2, y3, y4, y5, .slice Av S.length cv]) (l := l) (i := i) HUL.out HUS.out HG.out (by decide) (by decide) HB.out HOWN.out B3 ((BytesT.of_own e1 HY.out).below ((Below.refl _ _).alloc (Nat.le_refl _) _)) hown2 hg2
  go_end0
  exact ⟨rfl, _, FIN⟩
end Go.Proofs.YtpdmmmcelkinjaaFmt
