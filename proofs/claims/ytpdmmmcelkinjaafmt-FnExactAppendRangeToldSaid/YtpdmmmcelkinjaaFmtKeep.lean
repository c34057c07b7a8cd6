/- What stays by its type: a call that writes blocks of some types alone. Bytes that lie in a block of bytes. -/
import Derived.Test.YtpdmmmcelkinjaaFmtMthW
import Derived.Test.YtpdmmmcelkinjaaFmtPieces
import Derived.Deep.RegionHeldLaw
namespace Go.Proofs.YtpdmmmcelkinjaaFmt
open Go.ChangeShapes Go.WideShapes Go.ChangeAt Go.RowKit
set_option maxRecDepth 20000
/-- Every block whose type is not one of these is as it was. -/
structure KeepT (ts : List TypeId) (w w' : World) : Prop where
  os : w'.os = w.os
  tape : w'.tape = w.tape
  output : w'.output = w.output
  size : w.heap.size ≤ w'.heap.size
  block : ∀ (k : Nat) (cs : Array Value) (t : TypeId) (fr : Nat × Nat), w.heap[k]? = some (.cells cs t fr) → t ∉ ts → w'.heap[k]? = some (.cells cs t fr)
section
variable {ts : List TypeId} {w w' w'' : World}
theorem KeepT.refl (ts : List TypeId) (w : World) : KeepT ts w w := ⟨rfl, rfl, rfl, Nat.le_refl _, fun _ _ _ _ h _ => h⟩
theorem KeepT.trans (h : KeepT ts w w') (k : KeepT ts w' w'') : KeepT ts w w'' := ⟨k.os.trans h.os, k.tape.trans h.tape, k.output.trans h.output, Nat.le_trans h.size k.size, fun g cs t fr e hn => k.block g cs t fr (h.block g cs t fr e hn) hn⟩
theorem KeepT.of_below (h : Below w.heap.size w w') : KeepT ts w w' := ⟨h.os, h.tape, h.output, h.size, fun g cs t fr e _ => by
  have hl : g < w.heap.size := by
    rcases Nat.lt_or_ge g w.heap.size with hl | hl
    · exact hl
    · rw [Array.getElem?_eq_none hl] at e; cases e
  exact (h.block g hl).trans e⟩
theorem KeepT.drew (h : KeepT ts w w') : KeepT ts w w'.drew := ⟨h.os, h.tape, h.output, h.size, h.block⟩
theorem KeepT.alloc (h : KeepT ts w w') (o : Obj) : KeepT ts w (w'.alloc o) := h.trans (.of_below ((Below.refl _ _).alloc (Nat.le_refl _) o))
theorem KeepT.blk {g : Nat} {t : TypeId} {cs : Array Value} (h : KeepT ts w w') (hb : Blk w g t cs) (hn : t ∉ ts) : Blk w' g t cs := h.block g cs t (0, 0) hb hn
theorem KeepT.mono {us : List TypeId} (h : KeepT ts w w') (hs : ∀ t ∈ ts, t ∈ us) : KeepT us w w' := ⟨h.os, h.tape, h.output, h.size, fun g cs t fr e hn => h.block g cs t fr e (fun hm => hn (hs t hm))⟩
end
/-- Bytes that lie in a block of bytes. -/
def BytesT (w : World) (v : Value) (l : List Nat) : Prop := BytesR w v l ∧ (0 < l.length → ∀ A n c, v = .slice (some A) n c → ∃ cs fr, w.heap[A.block]? = some (.cells cs 5 fr))
theorem BytesT.keep {ts : List TypeId} {w w' : World} {v : Value} {l : List Nat} (h : BytesT w v l) (hk : KeepT ts w w') (hn : 5 ∉ ts) : BytesT w' v l := by
  obtain ⟨⟨A, cap, rfl, hc, hy, hat⟩, ht⟩ := h
  refine ⟨⟨A, cap, rfl, hc, hy, fun hl => ?_⟩, fun hl A' n c e => ?_⟩
  · obtain ⟨g, o, rfl, h'⟩ := hat hl
    obtain ⟨cs, fr, hb⟩ := ht hl _ _ _ rfl
    have := hk.block g cs _ fr hb hn
    exact ⟨g, o, rfl, fun k hk' => (World.cell?_of_block (w := w) (this.trans hb.symm)).trans (h' k hk')⟩
  · injection e with e1 _ _
    subst e1
    obtain ⟨cs, fr, hb⟩ := ht hl _ _ _ rfl
    exact ⟨cs, fr, hk.block _ cs _ fr hb hn⟩
theorem BytesT.below {w w' : World} {v : Value} {l : List Nat} (h : BytesT w v l) (hb : Below w.heap.size w w') : BytesT w' v l := h.keep (KeepT.of_below (ts := []) hb) (by simp)
/-! The hash of two nodes, in a block of bytes. -/
theorem two_t (n : Nat) (hn : n < 18446744073709551616) (w : World) : Calls Tryf.prog 39 #[.int .u64 n] w fun e w' => ∃ v, e = .returned v ∧ BytesT w' v (Pl.two n) ∧ Below w.heap.size w w' ∧ NewV w.heap.size v := by
  go_enter Tryf.func39, Tryf.ntmps39
  go_wp2_with fail
  go_ret
  refine ⟨_, rfl, ⟨⟨_, 2, rfl, Nat.le_refl _, Pl.two_bytes n, fun _ => ⟨_, 0, rfl, fun k hk => ?_⟩⟩, fun _ A n' c e => ?_⟩, (Below.refl _ _).alloc (Nat.le_refl _) _, fun A n c e => by injection e with e; injection e with e; subst e; exact Nat.le_refl _⟩
  · have hk2 : k = 0 ∨ k = 1 := by have : k < 2 := hk; omega
    rcases hk2 with rfl | rfl <;> simp [Pl.two]
  · injection e with e; injection e with e; subst e
    exact ⟨_, _, heap_alloc_new w _⟩
/-- New bytes, in a block of bytes. -/
def RetBytesK (w : World) (l : List Nat) (e : Ending) (w' : World) : Prop := ∃ v, e = .returned v ∧ BytesT w' v l ∧ Below w.heap.size w w' ∧ NewV w.heap.size v
theorem children_t (h : Pl.HF) (ok : h.ok) (v1 v2 : Value) (l r : List Nat) (w : World) (hl : BytesR w v1 l) (hr : BytesR w v2 r) :
    Calls Tryf.prog 27 #[hashV h, v1, v2] w (RetBytesK w (h.hc l r)) := by
  have hlt := Pl.hc_lt ok hl.bytes hr.bytes
  have hn1 := Pl.num_lt hl.bytes
  have hn2 := Pl.num_lt hr.bytes
  obtain ⟨A, B, C⟩ := h
  obtain ⟨ha, hb, hc⟩ := ok
  unfold Pl.HF.hc hashV
  simp only [] at hlt ha hb hc ⊢
  have HL : Hid (BytesR w v1 l) := hl
  have HR : Hid (BytesR w v2 r) := hr
  clear hl hr
  obtain ⟨m1, m2, _⟩ := hlt
  have e1 : IntKind.u64.wrap (A : Int) = (A : Int) := wrapN A (by omega)
  have e2 : IntKind.u64.wrap (B : Int) = (B : Int) := wrapN B (by omega)
  have e3 : IntKind.u64.wrap (C : Int) = (C : Int) := wrapN C (by omega)
  have e4 : IntKind.u64.wrap ((A : Int) * (Pl.num l : Int)) = ((A * Pl.num l : Nat) : Int) := by have := wrapN (A * Pl.num l) (by omega); simpa using this
  have e5 : IntKind.u64.wrap ((B : Int) * (Pl.num r : Int)) = ((B * Pl.num r : Nat) : Int) := by have := wrapN (B * Pl.num r) (by omega); simpa using this
  have e6 : IntKind.u64.wrap (((A * Pl.num l : Nat) : Int) + ((B * Pl.num r : Nat) : Int)) = ((A * Pl.num l + B * Pl.num r : Nat) : Int) := by have := wrapN (A * Pl.num l + B * Pl.num r) (by omega); simpa using this
  have e7 : IntKind.u64.wrap (((A * Pl.num l + B * Pl.num r : Nat) : Int) + (C : Int)) = ((A * Pl.num l + B * Pl.num r + C : Nat) : Int) := by have := wrapN (A * Pl.num l + B * Pl.num r + C) (by omega); simpa using this
  have hlast : A * Pl.num l + B * Pl.num r + C < 18446744073709551616 := by omega
  generalize A * Pl.num l + B * Pl.num r + C = q at e7 hlast ⊢
  generalize A * Pl.num l + B * Pl.num r = q2 at e6 e7
  generalize A * Pl.num l = q3 at e4 e6
  generalize B * Pl.num r = q4 at e5 e6
  clear m1 m2 ha hb hc
  go_enter Tryf.func27, Tryf.ntmps27
  go_wp2_with fail
  have b1 : BytesR (w.alloc (.cells #[.int .u32 (A : Int), .int .u32 (B : Int), .int .u32 (C : Int)] 24)).drew v1 l := HL.out.below ((Below.refl _ _).alloc (Nat.le_refl _) _).drew
  have b2 : BytesR (w.alloc (.cells #[.int .u32 (A : Int), .int .u32 (B : Int), .int .u32 (C : Int)] 24)).drew v2 r := HR.out.below ((Below.refl _ _).alloc (Nat.le_refl _) _).drew
  have B5 : Below w.heap.size w (w.alloc (.cells #[.int .u32 (A : Int), .int .u32 (B : Int), .int .u32 (C : Int)] 24)).drew := ((Below.refl _ _).alloc (Nat.le_refl _) _).drew
  generalize hg0 : w.heap.size = g0 at *
  have HG : Hid (w.heap.size = g0) := hg0
  clear hg0
  go_region_held3 (fun w' => w'.cell? ⟨g0, 0, none⟩ = some (.int .u32 (A : Int)) ∧ w'.cell? ⟨g0, 1, none⟩ = some (.int .u32 (B : Int)) ∧ w'.cell? ⟨g0, 2, none⟩ = some (.int .u32 (C : Int)) ∧ BytesR w' v1 l ∧ BytesR w' v2 r ∧ Below g0 w w')
    (first | assumption | exact ⟨by simp [← HG.out], by simp [← HG.out], by simp [← HG.out], b1, b2, B5⟩ | exact keepCh hb (by assumption))
    (first | (go_at_call_of 40 v1; refine (number_c v1 l _ (by assumption)).mono ?_; rintro e w' ⟨rfl, rfl⟩) | (go_at_call_of 40 v2; refine (number_c v2 r _ (by assumption)).mono ?_; rintro e w' ⟨rfl, rfl⟩) | (go_at_call 39; refine (two_t q hlast _).mono ?_; rintro e w' ⟨v, rfl, hv, hb, hnew⟩))
  all_goals
    obtain ⟨_, _, _, _, _, hB⟩ : w'.cell? ⟨g0, 0, none⟩ = some (.int .u32 (A : Int)) ∧ w'.cell? ⟨g0, 1, none⟩ = some (.int .u32 (B : Int)) ∧ w'.cell? ⟨g0, 2, none⟩ = some (.int .u32 (C : Int)) ∧ BytesR w' v1 l ∧ BytesR w' v2 r ∧ Below g0 w w' := by assumption
    have hnew' : NewV w.heap.size v := hnew.mono (by simp [World.drew] <;> omega)
    clear e1 e2 e3 e4 e5 e6 e7 b1 b2 B5 hb hn1 hn2 hnew
    go_wp2
    go_ret
    exact ⟨_, rfl, hv, HG.out ▸ hB, HG.out ▸ hnew'⟩
end Go.Proofs.YtpdmmmcelkinjaaFmt
/- Lists of nodes and their hashes, as the visitors make them; the visitor of impl.grow. -/
namespace Go.Proofs.YtpdmmmcelkinjaaFmt
open Go.ChangeShapes Go.WideShapes Go.ChangeAt Go.RowKit
set_option maxRecDepth 20000
theorem owns_keep {ts : List TypeId} {w w' : World} {base : Nat} {e : TypeId} {size : Nat} {v : Value} {n : Nat} {xs : List Value} (h : w.ownsRow base e size v n xs) (hk : KeepT ts w w') (he : e ∉ ts) : w'.ownsRow base e size v n xs := by
  obtain ⟨h1, h2⟩ := h
  refine ⟨h1, h2.imp id ?_⟩
  rintro ⟨g, cap, cur, rfl, hb, hh, r⟩
  exact ⟨g, cap, cur, rfl, hb, hk.block g cur e (0, 0) hh he, r⟩
theorem keep_grown {w w' : World} {base : Nat} {e : TypeId} {size : Nat} {v : Value} {n : Nat} {xs : List Value} (h : w.ownsRow base e size v n xs) (hg : w.grownBy w' v.ownBlock) : KeepT [e] w w' :=
  ⟨hg.os, hg.tape, hg.output, hg.size, fun k cs t fr hk hn => by
    have hl : k < w.heap.size := by
      rcases Nat.lt_or_ge k w.heap.size with hl | hl
      · exact hl
      · rw [Array.getElem?_eq_none hl] at hk; cases hk
    refine (hg.block k hl fun e' => ?_).trans hk
    rcases h.2 with ⟨rfl, _⟩ | ⟨g, cap, cur, rfl, _, hh, _⟩
    · cases e'
    · injection e' with e'
      subst e'
      rw [hh] at hk
      injection hk with hk
      injection hk with _ ht _
      exact hn (by rw [← ht]; exact List.mem_singleton.2 rfl)⟩
theorem keep_set {w : World} {g i : Nat} {t : TypeId} {cs : Array Value} (h : Blk w g t cs) (u : Value) : KeepT [t] w (w.setCell ⟨g, i, none⟩ u) := by
  have hb : Below 0 w (w.setCell ⟨g, i, none⟩ u) := (Below.refl 0 w).setCell (Nat.zero_le _) u
  refine ⟨hb.os, hb.tape, hb.output, hb.size, fun k cs' t' fr hk hn => ?_⟩
  rcases Nat.decEq k g with hne | rfl
  · exact (Below.heap_setCell w ⟨g, i, none⟩ u k hne).trans hk
  · exfalso
    unfold Blk at h
    rw [h] at hk
    injection hk with hk
    injection hk with _ ht _
    exact hn (by rw [← ht]; exact List.mem_singleton.2 rfl)
/-- append to a row of one's own, as one step of a region. -/
theorem step_append_gen {w : World} {ops : Array Oper} {o : Oper} {a : Act} {K : Act → World → Prop} {Q : Exit → Act → World → Prop} {E : Prop} (hgd : o.guard = none) (d : Nat) (hd : o.dst = some d) (s x : Operand) (t : TypeId)
    (ho : o.op = .call { callee := .builtin .append, args := #[s, x], argTypes := #[t, t] }) (base : Nat) (e : TypeId) (i : TypeInfo) (z : Value) (size bytes : Nat) (ht : Tryf.prog.underlying t = some (.slice e)) (hi : Tryf.prog.info? e = some i) (hz : i.zero = some z)
    (hsize : i.size = size) (hby : i.bytes = bytes) (hzs : z.cells.size = size) (hsz : 0 < size) (v : Value) (n : Nat) (xs : List Value) (hown : w.ownsRow base e size v n xs) (hs : a.eval s = v) (ad : Addr) (m c : Nat) (news : List Value) (hx : a.eval x = .slice (some ad) m c)
    (hl : news.length = m * size) (hnews : ∀ j u, news[j]? = some u → w.cell? (ad.add j) = some u) (h1 : ∀ u ∈ news, u.oneCell' = true) (h63 : n + m ≤ maxLen) (hbytes : (n + m) * bytes ≤ 140737488355328) (hbase : base ≤ w.heap.size)
    (h : ∀ A cap w', w'.ownsRow base e size (.slice A (n + m) cap) (n + m) (xs ++ news) → w.grownBy w' v.ownBlock → K (a.put (some d) (.slice A (n + m) cap)) w') :
    if Region.wanted o (yielded ops a.tmps) = true then Oper.wp Tryf.prog o a w K Q else E := by
  rw [if_pos (show Region.wanted o (yielded ops a.tmps) = true by simp [Region.wanted, hgd])]
  rw [← hd] at h
  obtain ⟨v', w', hr, h2, h3, _, h5⟩ := run_append_own_at (P := Tryf.prog) (w := w) base t o.type e i z size bytes ht hi hz hsize hby hzs hsz v n xs hown ad m c news hl hnews h1 h63 hbytes hbase
  obtain ⟨A2, c2, rfl, _⟩ := own_slice h2
  unfold Oper.wp execOp
  simp only [ho, resolve, invoke, builtin, Sem.run_bind, Sem.run_pure, Result.andThen_ok, List.map_toArray, List.map_cons, List.map_nil, hs, hx, hr]
  exact h A2 c2 w' h2 h3
/-- A node and its hash. -/
abbrev SeenN := Nat × Nat × List Nat
def seenCells (S : List SeenN) (us : List Value) : List Value := (S.zip us).flatMap fun p => [.int .u64 (p.1.1 : Int), .int .u64 (p.1.2.1 : Int), p.2]
theorem seenCells_snoc {S : List SeenN} {us : List Value} (hl : S.length = us.length) (s : SeenN) (u : Value) : seenCells (S ++ [s]) (us ++ [u]) = seenCells S us ++ [.int .u64 (s.1 : Int), .int .u64 (s.2.1 : Int), u] := by
  unfold seenCells
  rw [List.zip_append hl]
  simp
/-- A row of one's own in which these lie. -/
def SeenB (w : World) (base : Nat) (v : Value) (S : List SeenN) : Prop := ∃ us : List Value, S.length = us.length ∧ w.ownsRow base 47 3 v S.length (seenCells S us) ∧ ∀ (k : Nat) (u : Value) (s : SeenN), us[k]? = some u → S[k]? = some s → BytesT w u s.2.2
theorem SeenB.keep {ts : List TypeId} {w w' : World} {base : Nat} {v : Value} {S : List SeenN} (h : SeenB w base v S) (hk : KeepT ts w w') (h1 : 47 ∉ ts) (h2 : 5 ∉ ts) : SeenB w' base v S := by
  obtain ⟨us, hl, ho, hb⟩ := h
  exact ⟨us, hl, owns_keep ho hk h1, fun k u s hu hs => (hb k u s hu hs).keep hk h2⟩
theorem seenInfo : (Tryf.prog.info? 47).map (fun i => (i.zero, i.size, i.bytes)) = some (some (.agg #[.int .u64 0, .int .u64 0, .slice none 0 0]), 3, 40) := by kernel_rfl
end Go.Proofs.YtpdmmmcelkinjaaFmt
/- What a visitor leaves behind: a node and a copy of its hash more in the list. -/
namespace Go.Proofs.YtpdmmmcelkinjaaFmt
open Go.ChangeShapes Go.WideShapes Go.ChangeAt Go.RowKit
set_option maxRecDepth 20000
theorem BytesT.of_own {w : World} {base : Nat} {v : Value} {l : List Nat} (h : w.ownsRow base 5 1 v l.length (u8Cells l)) (hy : Pl.Bytes l) : BytesT w v l := by
  refine ⟨BytesR.of_own h hy, fun hl A n c e => ?_⟩
  rcases h.2 with ⟨e1, e2⟩ | ⟨g, cap, cur, e1, _, hh, _⟩
  · rw [e1] at e; injection e with e; cases e
  · rw [e1] at e; injection e with e; injection e with e; subst e
    exact ⟨cur, _, hh⟩
theorem visit_fin {w W w3 : World} {base gv k l i : Nat} {ht : TypeId} {cs : Array Value} {av av' u : Value} {S : List SeenN} {us : List Value} {hl : List Nat}
    (hul : S.length = us.length) (hus : ∀ (k : Nat) (u : Value) (s : SeenN), us[k]? = some u → S[k]? = some s → BytesT w u s.2.2) (hgv : Blk w gv ht cs) (hne : ht ≠ 47) (hne2 : ht ≠ 5) (hbg : base ≤ gv)
    (hown : w.ownsRow base 47 3 av S.length (seenCells S us)) (hB : Below w.heap.size w W) (hu : BytesT W u hl) (hown' : w3.ownsRow base 47 3 av' (S.length + 1) (seenCells S us ++ [.int .u64 (l : Int), .int .u64 (i : Int), u])) (hg : W.grownBy w3 av.ownBlock) :
    SeenB (w3.setCell ⟨gv, k, none⟩ av') base av' (S ++ [(l, i, hl)]) ∧ Blk (w3.setCell ⟨gv, k, none⟩ av') gv ht (cs.setIfInBounds k av') ∧ KeepT [47, ht] w (w3.setCell ⟨gv, k, none⟩ av') ∧ Below base w (w3.setCell ⟨gv, k, none⟩ av') := by
  have hlt : gv < w.heap.size := hgv.lt
  have hownW := own_below hown hB
  have hgvW : Blk W gv ht cs := hgv.below' hB
  have k1 : KeepT [47] W w3 := keep_grown hownW hg
  have hgv3 : Blk w3 gv ht cs := k1.blk hgvW (by simpa using hne)
  have k2 : KeepT [ht] w3 (w3.setCell ⟨gv, k, none⟩ av') := keep_set hgv3 av'
  have k0 : KeepT [47, ht] w W := KeepT.of_below hB
  have k12 : KeepT [47, ht] W (w3.setCell ⟨gv, k, none⟩ av') := (k1.mono (by simp)).trans (k2.mono (by simp))
  have ho3 : (w3.setCell ⟨gv, k, none⟩ av').ownsRow base 47 3 av' (S.length + 1) (seenCells S us ++ [.int .u64 (l : Int), .int .u64 (i : Int), u]) := owns_keep hown' k2 (by simpa using fun e => hne e.symm)
  have hnm : 5 ∉ [47, ht] := by
    simp only [List.mem_cons, List.not_mem_nil, or_false, not_or]
    exact ⟨by decide, fun e => hne2 e.symm⟩
  have kk := k0.trans k12
  refine ⟨⟨us ++ [u], by simp [hul], ?_, fun j x s hx hs => ?_⟩, hgv3.set_ k av', kk, ?_⟩
  · rw [seenCells_snoc hul, List.length_append]
    exact ho3
  · rcases Nat.lt_or_ge j us.length with h | h
    · rw [List.getElem?_append_left h] at hx
      rw [List.getElem?_append_left (by omega)] at hs
      exact (hus j x s hx hs).keep kk hnm
    · rw [List.getElem?_append_right h] at hx
      rw [List.getElem?_append_right (by omega)] at hs
      have h0 : j - us.length = 0 := by
        rcases Nat.eq_zero_or_pos (j - us.length) with h0 | h0
        · exact h0
        · rw [List.getElem?_eq_none (by simp; omega)] at hx; cases hx
      rw [h0] at hx
      rw [hul, h0] at hs
      simp at hx hs
      subst hx hs
      exact hu.keep k12 hnm
  · have hb2 := (hB.mono (Nat.le_trans hbg (Nat.le_of_lt hlt)))
    exact (hb2.grown hg (Nat.le_trans hbg (Nat.le_trans (Nat.le_of_lt hlt) hB.size)) (fun k hk => (hownW.lt k hk).1)).setCell hbg av'
end Go.Proofs.YtpdmmmcelkinjaaFmt
/- The nodes and hashes that were told, one by one. -/
namespace Go.Proofs.YtpdmmmcelkinjaaFmt
open Go.ChangeShapes Go.WideShapes Go.ChangeAt Go.RowKit
set_option maxRecDepth 20000
theorem seenCells_at : ∀ (S : List SeenN) (us : List Value) (k : Nat) (s : SeenN) (u : Value), S[k]? = some s → us[k]? = some u →
    (seenCells S us)[k * 3]? = some (.int .u64 (s.1 : Int)) ∧ (seenCells S us)[k * 3 + 1]? = some (.int .u64 (s.2.1 : Int)) ∧ (seenCells S us)[k * 3 + 2]? = some u
  | [], _, _, _, _, h, _ => by simp at h
  | _ :: _, [], _, _, _, _, h => by simp at h
  | s :: S, u :: us, 0, s', u', h, h' => by
    simp at h h'
    subst h h'
    exact ⟨rfl, rfl, rfl⟩
  | s :: S, u :: us, k + 1, s', u', h, h' => by
    have ih := seenCells_at S us k s' u' (by simpa using h) (by simpa using h')
    have e : seenCells (s :: S) (u :: us) = [.int .u64 (s.1 : Int), .int .u64 (s.2.1 : Int), u] ++ seenCells S us := rfl
    rw [e]
    refine ⟨?_, ?_, ?_⟩
    · rw [List.getElem?_append_right (by simp; omega), show (k + 1) * 3 - [Value.int .u64 (s.1 : Int), .int .u64 (s.2.1 : Int), u].length = k * 3 by simp; omega]; exact ih.1
    · rw [List.getElem?_append_right (by simp; omega), show (k + 1) * 3 + 1 - [Value.int .u64 (s.1 : Int), .int .u64 (s.2.1 : Int), u].length = k * 3 + 1 by simp; omega]; exact ih.2.1
    · rw [List.getElem?_append_right (by simp; omega), show (k + 1) * 3 + 2 - [Value.int .u64 (s.1 : Int), .int .u64 (s.2.1 : Int), u].length = k * 3 + 2 by simp; omega]; exact ih.2.2
/-- What a list of told nodes holds at place k. -/
theorem SeenB.at {w : World} {base : Nat} {v : Value} {S : List SeenN} (h : SeenB w base v S) (h0 : 0 < S.length) :
    ∃ g c, v = .slice (some ⟨g, 0, none⟩) S.length c ∧ S.length ≤ c ∧ ∀ k (hk : k < S.length), ∃ u, w.cell? ⟨g, k * 3, none⟩ = some (.int .u64 (S[k].1 : Int)) ∧ w.cell? ⟨g, k * 3 + 1, none⟩ = some (.int .u64 (S[k].2.1 : Int)) ∧ w.cell? ⟨g, k * 3 + 2, none⟩ = some u ∧ BytesT w u S[k].2.2 := by
  obtain ⟨us, hl, ho, hb⟩ := h
  rcases own_cases ho with ⟨h1, _⟩ | ⟨_, g, c, rfl, hc⟩
  · omega
  · refine ⟨g, c, rfl, hc, fun k hk => ⟨us[k], ?_, ?_, ?_, hb k _ _ (List.getElem?_eq_getElem (by omega)) (List.getElem?_eq_getElem hk)⟩⟩
    · rw [ho.cellAt (k * 3) (by omega)]; exact (seenCells_at S us k _ _ (List.getElem?_eq_getElem hk) (List.getElem?_eq_getElem (by omega))).1
    · rw [ho.cellAt (k * 3 + 1) (by omega)]; exact (seenCells_at S us k _ _ (List.getElem?_eq_getElem hk) (List.getElem?_eq_getElem (by omega))).2.1
    · rw [ho.cellAt (k * 3 + 2) (by omega)]; exact (seenCells_at S us k _ _ (List.getElem?_eq_getElem hk) (List.getElem?_eq_getElem (by omega))).2.2
end Go.Proofs.YtpdmmmcelkinjaaFmt
