/- spec.HashOf. -/
import Derived.Test.YtobnmgnnidhfkaaFmtMthW
import Derived.Test.YtobnmgnnidhfkaaFmtMth
import Derived.Test.YtobnmgnnidhfkaaFmtNode
import Derived.Test.YtobnmgnnidhfkaaFmtPlan
namespace Go.Proofs.YtobnmgnnidhfkaaFmt
open Go.ChangeShapes Go.WideShapes Go.ChangeAt Go.RowKit
set_option maxRecDepth 20000
theorem hashes_part (A : Option Addr) (n cap b x : Nat) (h1 : b ≤ x) (h2 : x ≤ cap) (W : World) :
    (Instr.slice 27 (.slice A n cap) (some (.int .u64 (b : Int))) (some (.int .u64 (x : Int))) none).run Tryf.prog W = .ok (.slice (if cap = b then A else A.map (·.add (b * 1))) (x - b) (cap - b)) W := by
  rw [run_slice_lh W 27 _ _ _ (by rw [elemHashes]; exact Tryf.underlying27) .u64 .u64 (b : Int) (x : Int) (by omega) (by omega) (by omega), elemHashes, sizeBytes]
  rfl
theorem HashesR.part {w : World} {A : Option Addr} {n cap b x : Nat} {L : List (List Nat)} (h : HashesR w (.slice A n cap) L) (h1 : b ≤ x) (h2 : x ≤ L.length) :
    HashesR w (.slice (if cap = b then A else A.map (·.add (b * 1))) (x - b) (cap - b)) ((L.drop b).take (x - b)) := by
  obtain ⟨A', cap', e, hc, hy, hat⟩ := h
  injection e with e1 e2 e3
  subst e1 e2 e3
  have hl : ((L.drop b).take (x - b)).length = x - b := by simp; omega
  refine ⟨_, _, by rw [hl], by rw [hl]; omega, fun y hm => hy y (List.mem_of_mem_drop (List.mem_of_mem_take hm)), fun hp => ?_⟩
  rw [hl] at hp
  obtain ⟨g, o, rfl, h⟩ := hat (by omega)
  rw [if_neg (by omega)]
  refine ⟨g, o + b, by simp [add_plain3], fun k hk => ?_⟩
  rw [hl] at hk
  have := h (b + k) (by omega)
  rw [show o + b + k = o + (b + k) by omega]
  simpa using this
abbrev SH (w : World) (g0 g1 : Nat) (x1 x2 x3 y1 y2 v : Value) (L : List (List Nat)) (w' : World) : Prop := w'.cell? ⟨g0, 0, none⟩ = some x1 ∧ w'.cell? ⟨g0, 1, none⟩ = some x2 ∧ w'.cell? ⟨g0, 2, none⟩ = some x3 ∧ w'.cell? ⟨g1, 0, none⟩ = some y1 ∧ w'.cell? ⟨g1, 1, none⟩ = some y2 ∧ HashesR w' v L ∧ Below g0 w w'
theorem keepH {w W w' : World} {g0 g1 : Nat} {x1 x2 x3 y1 y2 v : Value} {L : List (List Nat)} (hb : Below W.heap.size W w') (h : SH w g0 g1 x1 x2 x3 y1 y2 v L W) : SH w g0 g1 x1 x2 x3 y1 y2 v L w' :=
  have up : ∀ {p : Addr} {v : Value}, W.cell? p = some v → w'.cell? p = some v := fun {p} {_} h => (hb.cell (World.block_lt_of_cell? W p h)).trans h
  ⟨up h.1, up h.2.1, up h.2.2.1, up h.2.2.2.1, up h.2.2.2.2.1, h.2.2.2.2.2.1.below hb, h.2.2.2.2.2.2.trans (hb.mono (Nat.le_of_lt (World.block_lt_of_cell? W _ h.1)))⟩
/-- What HashOf gives where the node's leaves are all there. -/
def RetHashE (a : Nat) (w : World) (l : List Nat) (e : Ending) (w' : World) : Prop := ∃ v, e = .returned (.tuple #[v, .bool true]) ∧ BytesR w' v l ∧ Below w.heap.size w w' ∧ Apart a w.heap.size l v
end Go.Proofs.YtobnmgnnidhfkaaFmt
/- laws.hashesOf. -/
namespace Go.Proofs.YtobnmgnnidhfkaaFmt
open Go.ChangeShapes Go.WideShapes Go.ChangeAt Go.RowKit
set_option maxRecDepth 20000
/-- The nodes are of these leaves. -/
def OfLeaves (n : Nat) (N : List (Nat × Nat)) : Prop := ∀ p ∈ N, p.1 ≤ 20 ∧ (p.2 + 1) * 2 ^ p.1 ≤ n
/-- The hashes of nodes. -/
def nodeHs (h : Pl.HF) (L : List (List Nat)) (N : List (Nat × Nat)) : List (List Nat) := N.map fun p => Pl.mr h (Pl.atL L) (p.2 * 2 ^ p.1) (2 ^ p.1)
theorem nodeHs_hl (h : Pl.HF) (L : List (List Nat)) (N : List (Nat × Nat)) : nodeHs h L N = Pl.hl h L (N.map Pl.rng) := by
  unfold nodeHs Pl.hl
  rw [List.map_map]; rfl
theorem nodeHs_take (h : Pl.HF) (L : List (List Nat)) (N : List (Nat × Nat)) (k : Nat) (hk : k < N.length) : nodeHs h L (N.take (k + 1)) = nodeHs h L (N.take k) ++ [Pl.mr h (Pl.atL L) (N[k].2 * 2 ^ N[k].1) (2 ^ N[k].1)] := by
  unfold nodeHs
  rw [take_snoc N k hk, List.map_append]; rfl
theorem nodeHs_length (h : Pl.HF) (L : List (List Nat)) (N : List (Nat × Nat)) : (nodeHs h L N).length = N.length := by simp [nodeHs]
def RetBuiltTH (w : World) (L : List (List Nat)) (e : Ending) (w' : World) : Prop := ∃ v, e = .returned (.tuple #[v, .bool true]) ∧ Built w' w.heap.size v L ∧ Below w.heap.size w w'
end Go.Proofs.YtobnmgnnidhfkaaFmt
/- A row of hashes of one's own, in which cells are set. -/
namespace Go.Proofs.YtobnmgnnidhfkaaFmt
open Go.ChangeShapes Go.WideShapes Go.ChangeAt Go.RowKit
set_option maxRecDepth 20000
def Row (w : World) (g : Nat) (M : List (List Nat)) : Prop := ∃ cur : Array Value, Blk w g 26 cur ∧ M.length ≤ cur.size ∧ ∀ (k : Nat) (l : List Nat), M[k]? = some l → ∃ u, cur[k]? = some u ∧ BytesR w u l ∧ (0 < l.length → Off g u)
theorem Row.lt {w : World} {g : Nat} {M : List (List Nat)} (h : Row w g M) : g < w.heap.size := by obtain ⟨cur, h, _⟩ := h; exact h.lt
theorem Row.below {w w' : World} {g : Nat} {M : List (List Nat)} (h : Row w g M) (hb : Below w.heap.size w w') : Row w' g M := by
  obtain ⟨cur, h, hl, hk⟩ := h
  exact ⟨cur, h.below' hb, hl, fun k l e => by obtain ⟨u, h1, h2, h3⟩ := hk k l e; exact ⟨u, h1, h2.below hb, h3⟩⟩
theorem Row.at_ {w : World} {g : Nat} {M : List (List Nat)} (h : Row w g M) {k : Nat} {l : List Nat} (hk : M[k]? = some l) : ∃ A n c, w.cell? ⟨g, k, none⟩ = some (.slice A n c) ∧ w.frozen? ⟨g, k, none⟩ = false ∧ BytesR w (.slice A n c) l ∧ (0 < l.length → Off g (.slice A n c)) := by
  obtain ⟨cur, hb, hl, h⟩ := h
  obtain ⟨u, h1, h2, h3⟩ := h k l hk
  obtain ⟨A, n, c, rfl⟩ := h2.form
  exact ⟨A, n, c, (hb.cell k).trans h1, hb.frozen k, h2, h3⟩
theorem BytesR.setCell {w : World} {u : Value} {l : List Nat} (h : BytesR w u l) {g k : Nat} (ho : 0 < l.length → Off g u) (x : Value) : BytesR (w.setCell ⟨g, k, none⟩ x) u l := by
  obtain ⟨A, cap, rfl, hc, hy, hat⟩ := h
  refine ⟨A, cap, rfl, hc, hy, fun hl => ?_⟩
  obtain ⟨g2, o, rfl, h'⟩ := hat hl
  have hne := ho hl _ _ _ rfl
  exact ⟨g2, o, rfl, fun j hj => by rw [World.cell?_setCell_other w _ _ x (fun e => hne (by injection e with e1 _ _; simpa using e1.symm))]; exact h' j hj⟩
theorem Row.set {w : World} {g : Nat} {M : List (List Nat)} (h : Row w g M) {k : Nat} {u : Value} {l : List Nat} (hk : k < M.length) (hu : BytesR w u l) (ho : 0 < l.length → Off g u) : Row (w.setCell ⟨g, k, none⟩ u) g (M.set k l) := by
  obtain ⟨cur, hb, hl, h⟩ := h
  refine ⟨cur.setIfInBounds k u, hb.set_ k u, by simpa using hl, fun j m hj => ?_⟩
  rcases Nat.decEq j k with hjk | rfl
  · rw [List.getElem?_set_ne (fun e => hjk e.symm)] at hj
    obtain ⟨x, h1, h2, h3⟩ := h j m hj
    refine ⟨x, ?_, h2.setCell h3 u, h3⟩
    rw [Array.getElem?_setIfInBounds_ne (fun e => hjk e.symm)]
    exact h1
  · rw [List.getElem?_set_self hk] at hj
    injection hj with hj
    subst hj
    refine ⟨u, ?_, hu.setCell ho u, ho⟩
    rw [Array.getElem?_setIfInBounds_self_of_lt (by omega)]
theorem Row.of_built {w : World} {b g n c : Nat} {L : List (List Nat)} (h : Built w b (.slice (some ⟨g, 0, none⟩) n c) L) : Row w g L ∧ b ≤ g := by
  obtain ⟨us, ho, hl, hk⟩ := h
  obtain ⟨hxl, ⟨e, _⟩ | ⟨g', cap, cur, e, hb, hg, hnc, hcm, hcs, ht⟩⟩ := ho
  · cases e
  · injection e with e1 e2 e3
    injection e1 with e1
    injection e1 with e1 _ _
    subst e1 e2 e3
    refine ⟨⟨cur, hg, by omega, fun k l hkl => ?_⟩, hb⟩
    have hkL : k < L.length := by
      rcases Nat.lt_or_ge k L.length with h | h
      · exact h
      · rw [List.getElem?_eq_none h] at hkl; cases hkl
    have hu : us[k]? = some us[k] := List.getElem?_eq_getElem (by omega)
    refine ⟨us[k], ?_, (hk k _ l hu hkl).1, fun h0 => (hk k _ l hu hkl).2 h0 _ rfl⟩
    rw [← hu, ← ht, List.getElem?_take_of_lt (by omega), Array.getElem?_toList]
theorem Row.hashes {w : World} {g c cap : Nat} {M R : List (List Nat)} (h : Row w g M) (ht : M.take c = R) (hc : c = R.length) (hle : c ≤ cap) : HashesR w (.slice (some ⟨g, 0, none⟩) c cap) R := by
  subst ht
  have hcl : c ≤ M.length := by simp at hc; omega
  have hl : (M.take c).length = c := by simp; omega
  have key : ∀ k (hk : k < c), ∃ u, w.cell? ⟨g, k, none⟩ = some u ∧ BytesR w u ((M.take c)[k]'(by omega)) := fun k hk => by
    obtain ⟨A, n, c', h1, _, h2, _⟩ := h.at_ (k := k) (l := M[k]) (List.getElem?_eq_getElem (by omega))
    exact ⟨_, h1, by simpa using h2⟩
  refine ⟨_, cap, by rw [hl], by rw [hl]; exact hle, fun x hx => ?_, fun h0 => ⟨g, 0, rfl, fun k hk => ?_⟩⟩
  · obtain ⟨k, hk, rfl⟩ := List.getElem_of_mem hx
    obtain ⟨u, _, hb⟩ := key k (by omega)
    exact hb.bytes
  · rw [Nat.zero_add]; exact key k (by omega)
end Go.Proofs.YtobnmgnnidhfkaaFmt
/- proof.Nodes.Rehash. -/
namespace Go.Proofs.YtobnmgnnidhfkaaFmt
open Go.ChangeShapes Go.WideShapes Go.ChangeAt Go.RowKit
set_option maxRecDepth 20000
set_option maxHeartbeats 4000000 in
theorem rehash_c (h : Pl.HF) (ok : h.ok) (Ai : Option Addr) (ci b e el ei : Nat) (A : Option Addr) (cap : Nat) (H : List (List Nat)) (base : Nat) (w : World) (hrow : 0 < H.length → ∃ g, A = some ⟨g, 0, none⟩ ∧ base ≤ g ∧ Row w g H) (hcap : H.length ≤ cap) (he : e ≤ H.length) (hH : H.length ≤ 2147483647) (hbase : base ≤ w.heap.size) :
    Calls Tryf.prog 29 #[.agg #[.slice Ai H.length ci, .int .i64 (b : Int), .int .i64 (e : Int), .int .u64 (el : Int), .int .u64 (ei : Int)], .slice A H.length cap, .func (.func 30) #[hashV h] #[]] w fun r w' => ∃ v, r = .returned (.tuple #[v, .nilIface]) ∧ HashesR w' v (Pl.reh h H b e) ∧ Below base w w' := by
  obtain ⟨g, hg⟩ : ∃ g, 0 < H.length → A = some ⟨g, 0, none⟩ ∧ base ≤ g ∧ Row w g H := by
    by_cases h0 : 0 < H.length
    · obtain ⟨g, hg⟩ := hrow h0; exact ⟨g, fun _ => hg⟩
    · exact ⟨0, fun h => absurd h h0⟩
  have hHi : (H.length : Int) ≤ 2147483647 := by omega
  have HC := Lib.hid (fun u1 u2 l1 l2 W => children_n h ok u1 u2 l1 l2 W)
  have HR0 := Lib.hid (Pl.RI.start h H b e)
  have HRS := Lib.hid (fun (M : List (List Nat)) (i c : Nat) (r : Pl.RI h H b e i c M) => r.step)
  have HRF := Lib.hid (fun (M : List (List Nat)) (i c : Nat) (r : Pl.RI h H b e i c M) => r.fold he)
  have HRE := Lib.hid (fun (M : List (List Nat)) (c : Nat) (r : Pl.RI h H b e H.length c M) => r.end_ he)
  have HRA := Lib.hid (fun (M : List (List Nat)) (i c : Nat) (r : Pl.RI h H b e i c M) => r.at_)
  have HRL := Lib.hid (fun (M : List (List Nat)) (i c : Nat) (r : Pl.RI h H b e i c M) => r.le)
  have HRN := Lib.hid (fun (M : List (List Nat)) (i c : Nat) (r : Pl.RI h H b e i c M) => r.len)
  clear hrow
  generalize hn : H.length = n at *
  have HN := Lib.hid hn
  clear hn
  unfold hashV at HC ⊢
  go_enter Tryf.func29, Tryf.ntmps29
  go_wp2_with fail
  go_region
  go_wp2_with fail
  go_loopw [10, 11] (fun cv iv wr => ∃ (i c : Nat) (M : List (List Nat)), i ≤ n ∧ c ≤ i ∧ cv = .int .i64 c ∧ iv = .int .i64 i ∧ Hid (Pl.RI h H b e i c M) ∧ Hid (0 < n → A = some ⟨g, 0, none⟩ ∧ base ≤ g ∧ g < w.heap.size ∧ Row wr g M) ∧ Hid (Below base w wr) ∧ wr.cell? ⟨w.heap.size, 1, none⟩ = some (.int .i64 (b : Int)) ∧ wr.cell? ⟨w.heap.size, 2, none⟩ = some (.int .i64 (e : Int))) (fun _ iv _ => n - (intOf iv).toNat)
  case atStart =>
    have hb0 := ((Below.refl w.heap.size w).alloc (Nat.le_refl _) (.cells #[.slice Ai n ci, .int .i64 (b : Int), .int .i64 (e : Int), .int .u64 (el : Int), .int .u64 (ei : Int)] 62)).drew
    exact ⟨0, 0, H, Nat.zero_le _, Nat.le_refl _, rfl, rfl, HR0, Lib.hid (fun h0 => ⟨(hg h0).1, (hg h0).2.1, (hg h0).2.2.lt, (hg h0).2.2.below hb0⟩), Lib.hid (hb0.mono hbase), by simp, by simp⟩
  case round =>
    obtain ⟨i, c, M, hin, hci, rfl, rfl, HR, HG, HB, c1, c2⟩ := hrel
    by_cases hi : i < n
    · obtain ⟨rfl, hbg, hgw, hrow⟩ := HG.out (by omega)
      have hx : M[i]? = some (H.getD i []) := by
        rw [HRA.out M i c HR.out i (Nat.le_refl _), List.getD_eq_getElem?_getD, List.getElem?_eq_getElem (by have := HN.out; omega)]; rfl
      have hML := HRN.out M i c HR.out
      obtain ⟨A2, n2, c2', d1, _, d2, d3⟩ := hrow.at_ hx
      obtain ⟨A3, n3, c3', d4, d5⟩ : ∃ A3 n3 c3', wr.cell? ⟨g, c, none⟩ = some (.slice A3 n3 c3') ∧ wr.frozen? ⟨g, c, none⟩ = false := by
        obtain ⟨A3, n3, c3', d4, d5, _, _⟩ := hrow.at_ (k := c) (l := M[c]'(by omega)) (List.getElem?_eq_getElem (by omega))
        exact ⟨A3, n3, c3', d4, d5⟩
      have HROW := Lib.hid hrow
      have HD2 := Lib.hid d2
      have HD3 := Lib.hid d3
      have hi1 : (i : Int) < (n : Int) := by omega
      have hi0 : (0 : Int) ≤ (i : Int) := by omega
      have hc0 : (0 : Int) ≤ (c : Int) := by omega
      have hc1 : (c : Int) < (n : Int) := by omega
      clear hrow d2 d3 hg hx hML
      have hne : g ≠ w.heap.size := by omega
      by_cases hbe : b ≤ i ∧ i < e
      · obtain ⟨hib, hcb, HRI⟩ := HRF.out M i c HR.out hbe.1 hbe.2
        obtain rfl : b = i := hib.symm
        obtain rfl : b = c := hcb.symm
        have HRI := Lib.hid HRI
        have k1 : (b : Int) ≤ (b : Int) := by omega
        have k2 : (b : Int) < (e : Int) := by omega
        have F0 : Hid (BytesR wr (.slice A2 n2 c2') (Pl.fd h H b 0)) := HD2
        have F1 : Hid (0 < (Pl.fd h H b 0).length → Off g (.slice A2 n2 c2')) := HD3
        clear HD2 HD3 d4
        go_wp2_with fail
        rename World => wo
        go_loopw [11, 13] (fun iv hv wr => ∃ (j : Nat) (Au : Option Addr) (nu cu : Nat), j ≤ e - b - 1 ∧ iv = .int .i64 ((b + 1 + j : Nat) : Int) ∧ hv = .slice Au nu cu ∧ Hid (BytesR wr (.slice Au nu cu) (Pl.fd h H b j)) ∧ Hid (0 < (Pl.fd h H b j).length → Off g (.slice Au nu cu)) ∧ Hid (Below wo.heap.size wo wr) ∧ wr.cell? ⟨w.heap.size, 2, none⟩ = some (.int .i64 (e : Int))) (fun iv _ _ => e - (intOf iv).toNat)
        case atStart => exact ⟨0, A2, n2, c2', Nat.zero_le _, by simp, rfl, F0, F1, Lib.hid (Below.refl _ _), c2⟩
        case round =>
          obtain ⟨j, Au, nu, cu, hj, rfl, rfl, G0, G1, GB, c3⟩ := hrel
          by_cases hje : b + 1 + j < e
          · have hx : M[b + 1 + j]? = some (H.getD (b + 1 + j) []) := by
              rw [HRA.out M b b HR.out _ (by omega), List.getD_eq_getElem?_getD, List.getElem?_eq_getElem (by have := HN.out; omega)]; rfl
            obtain ⟨A4, n4, c4, y1, y2⟩ : ∃ A4 n4 c4, wr.cell? ⟨g, b + 1 + j, none⟩ = some (.slice A4 n4 c4) ∧ BytesR wr (.slice A4 n4 c4) (H.getD (b + 1 + j) []) := by
              obtain ⟨A4, n4, c4, d4, _, d6, _⟩ := (HROW.out.below GB.out).at_ hx
              exact ⟨A4, n4, c4, d4, d6⟩
            have Y2 := Lib.hid y2
            have HNx := Lib.hid (show Pl.fd h H b (j + 1) = h.hc (H.getD (b + 1 + j) []) (Pl.fd h H b j) from rfl)
            have q1 : ((b + 1 + j : Nat) : Int) < (e : Int) := by omega
            have q2 : ((b + 1 + j : Nat) : Int) < (n : Int) := by omega
            have q3 : (0 : Int) ≤ ((b + 1 + j : Nat) : Int) := by omega
            clear y2
            go_wp2_with fail
            refine (HC.out _ _ (H.getD (b + 1 + j) []) (Pl.fd h H b j) _ Y2.out G0.out).mono ?_
            rintro r w3 ⟨u3, rfl, z1, z2, z3⟩
            obtain ⟨A5, n5, c5, rfl⟩ := z1.form
            have c4 := (z2.cell (World.block_lt_of_cell? wr _ c3)).trans c3
            have Z1 : Hid (BytesR w3 (.slice A5 n5 c5) (Pl.fd h H b (j + 1))) := Lib.hid (by rw [HNx.out]; exact z1)
            have Z2 := Lib.hid z2
            have hgwr : g < wr.heap.size := World.block_lt_of_cell? wr _ y1
            have Z3 : Hid (0 < (Pl.fd h H b (j + 1)).length → Off g (.slice A5 n5 c5)) := Lib.hid (fun _ A n c e => by have := z3 A n c e; omega)
            have q4 : IntKind.i64.wrap (((b + 1 + j : Nat) : Int) + 1) = ((b + 1 + (j + 1) : Nat) : Int) := by rw [IntWalk.i64_in _ (by omega)]; omega
            clear z1 z2 z3 c3 y1
            go_wp2_with fail
            exact ⟨⟨j + 1, _, _, _, by omega, by go_num, rfl, Z1, Z3, Lib.hid (GB.out.trans (Z2.out.mono GB.out.size)), c4⟩, by simp [intOf] <;> omega⟩
          · obtain rfl : j = e - b - 1 := by omega
            have hbn : b < n := by omega
            have hx0 : M[b]? = some (H.getD b []) := by
              rw [HRA.out M b b HR.out _ (by omega), List.getD_eq_getElem?_getD, List.getElem?_eq_getElem (by have := HN.out; omega)]; rfl
            have HRW := HROW.out.below GB.out
            obtain ⟨A6, n6, c6, y3, y4⟩ : ∃ A6 n6 c6, wr.cell? ⟨g, b, none⟩ = some (.slice A6 n6 c6) ∧ wr.frozen? ⟨g, b, none⟩ = false := by
              obtain ⟨A4, n4, c4, d4, d5, d6, _⟩ := HRW.at_ hx0
              exact ⟨A4, n4, c4, d4, d5⟩
            have S1 := Lib.hid (HRW.set (k := b) (by rw [HRN.out M b b HR.out]; exact hbn) G0.out G1.out)
            have S2 := Lib.hid ((HB.out.trans (GB.out.mono (by have := HB.out.size; omega))).setCell (p := ⟨g, b, none⟩) hbg (.slice Au nu cu))
            have c1' := (GB.out.cell (World.block_lt_of_cell? wo _ c1)).trans c1
            have s3 := (World.cell?_setCell_other wr ⟨g, b, none⟩ ⟨w.heap.size, 1, none⟩ (.slice Au nu cu) (fun e => by have h1 := congrArg Addr.block e; have h2 : w.heap.size = g ∨ g = w.heap.size := (by first | exact .inl h1 | exact .inr h1); omega)).trans c1'
            have s4 := (World.cell?_setCell_other wr ⟨g, b, none⟩ ⟨w.heap.size, 2, none⟩ (.slice Au nu cu) (fun e => by have h1 := congrArg Addr.block e; have h2 : w.heap.size = g ∨ g = w.heap.size := (by first | exact .inl h1 | exact .inr h1); omega)).trans c3
            obtain ⟨T, hT⟩ : ∃ T, T = b + 1 + (e - b - 1) := ⟨_, rfl⟩
            rw [← hT]
            have hTe : T = e := by omega
            subst hTe
            have q1 : ¬ (T : Int) < (T : Int) := by omega
            have q4 : IntKind.i64.wrap ((T : Int) - 1) = ((T - 1 : Nat) : Int) := by rw [IntWalk.i64_in _ (by omega)]; omega
            have q5 : IntKind.i64.wrap (((T - 1 : Nat) : Int) + 1) = (T : Int) := by rw [IntWalk.i64_in _ (by omega)]; omega
            have q6 : (b : Int) < (n : Int) := by omega
            have q7 : (0 : Int) ≤ (b : Int) := by omega
            clear hT hx0 HRW c1'
            go_wp2_with fail
            exact ⟨⟨T, b + 1, M.set b (Pl.fd h H b (T - b - 1)), by omega, by omega, by go_num, rfl, HRI, Lib.hid (fun _ => ⟨trivial, hbg, hgw, S1.out⟩), S2, s3, s4⟩, by simp [intOf] <;> omega⟩
      · have HNB := Lib.hid hbe
        have S1 := Lib.hid (HROW.out.set (k := c) (by rw [HRN.out M i c HR.out]; omega) HD2.out HD3.out)
        have S2 := Lib.hid (HB.out.setCell (p := ⟨g, c, none⟩) hbg (.slice A2 n2 c2'))
        have s3 := (World.cell?_setCell_other wr ⟨g, c, none⟩ ⟨w.heap.size, 1, none⟩ (.slice A2 n2 c2') (fun e => by have h1 := congrArg Addr.block e; have h2 : w.heap.size = g ∨ g = w.heap.size := (by first | exact .inl h1 | exact .inr h1); omega)).trans c1
        have s4 := (World.cell?_setCell_other wr ⟨g, c, none⟩ ⟨w.heap.size, 2, none⟩ (.slice A2 n2 c2') (fun e => by have h1 := congrArg Addr.block e; have h2 : w.heap.size = g ∨ g = w.heap.size := (by first | exact .inl h1 | exact .inr h1); omega)).trans c2
        by_cases hbi : b ≤ i
        · have k1 : (b : Int) ≤ (i : Int) := by omega
          have k2 : ¬ (i : Int) < (e : Int) := by omega
          go_wp2_with fail
          exact ⟨⟨i + 1, c + 1, _, by omega, by omega, by go_num, by go_num, Lib.hid (HRS.out M i c HR.out hi HNB.out), Lib.hid (fun _ => ⟨trivial, hbg, hgw, S1.out⟩), S2, s3, s4⟩, by simp [intOf]; omega⟩
        · have k1 : ¬ (b : Int) ≤ (i : Int) := by omega
          go_wp2_with fail
          exact ⟨⟨i + 1, c + 1, _, by omega, by omega, by go_num, by go_num, Lib.hid (HRS.out M i c HR.out hi HNB.out), Lib.hid (fun _ => ⟨trivial, hbg, hgw, S1.out⟩), S2, s3, s4⟩, by simp [intOf]; omega⟩
    · have hi1 : ¬ (i : Int) < (n : Int) := by omega
      obtain rfl : i = n := by omega
      obtain ⟨t1, t2⟩ := HRE.out M c HR.out
      have r1 := fun W => hashes_head A i cap c (by omega) W
      have HFin : Hid (HashesR wr (.slice (if cap = 0 then A else A.map (·.add 0)) c cap) (Pl.reh h H b e)) := by
        by_cases h0 : 0 < i
        · obtain ⟨rfl, _, _, hrow⟩ := HG.out h0
          rw [if_neg (by omega)]
          have := hrow.hashes (cap := cap) t1 t2 (by omega)
          exact Lib.hid (by simpa [add_plain3] using this)
        · have hz : (Pl.reh h H b e).length = 0 := by omega
          have hz2 : Pl.reh h H b e = [] := List.eq_nil_of_length_eq_zero hz
          obtain rfl : c = 0 := by omega
          rw [hz2]
          exact Lib.hid ⟨_, cap, rfl, Nat.zero_le _, fun x hx => by simp at hx, fun hl => by simp at hl⟩
      generalize (if cap = 0 then A else A.map (·.add 0)) = A1 at r1 HFin
      have hcc : (c : Int) ≤ (cap : Int) := by omega
      clear t1 t2 hg
      go_wp2_with fail
      go_ret2
      exact ⟨_, rfl, HFin.out, HB.out⟩
end Go.Proofs.YtobnmgnnidhfkaaFmt
/- impl.RehashInclusion, impl.RehashConsistency. -/
namespace Go.Proofs.YtobnmgnnidhfkaaFmt
open Go.ChangeShapes Go.WideShapes Go.ChangeAt Go.RowKit
set_option maxRecDepth 20000
theorem Built.row {w : World} {b n c : Nat} {A : Option Addr} {L : List (List Nat)} (h : Built w b (.slice A n c) L) : L.length ≤ c ∧ (0 < L.length → ∃ g, A = some ⟨g, 0, none⟩ ∧ b ≤ g ∧ Row w g L) := by
  obtain ⟨us, ho, hr⟩ := id h
  obtain ⟨A', c', e, hc⟩ := own_slice ho
  injection e with e1 e2 e3
  subst e1 e2 e3
  refine ⟨hc, fun h0 => ?_⟩
  rcases own_cases ho with ⟨h1, _⟩ | ⟨_, g, c2, e, _⟩
  · omega
  · injection e with e1 _ e3
    subst e1 e3
    have := Row.of_built h
    exact ⟨g, rfl, this.2, this.1⟩
abbrev SR (w : World) (g0 gp : Nat) (x1 x2 x3 y1 y2 y3 y4 y5 v : Value) (L : List (List Nat)) (w' : World) : Prop := w'.cell? ⟨g0, 0, none⟩ = some x1 ∧ w'.cell? ⟨g0, 1, none⟩ = some x2 ∧ w'.cell? ⟨g0, 2, none⟩ = some x3 ∧ w'.cell? ⟨gp, 0, none⟩ = some y1 ∧ w'.cell? ⟨gp, 1, none⟩ = some y2 ∧ w'.cell? ⟨gp, 2, none⟩ = some y3 ∧ w'.cell? ⟨gp, 3, none⟩ = some y4 ∧ w'.cell? ⟨gp, 4, none⟩ = some y5 ∧ HashesR w' v L ∧ Below g0 w w'
theorem keepR {w W w' : World} {B gp : Nat} {x1 x2 x3 y1 y2 y3 y4 y5 v : Value} {L : List (List Nat)} (hv : HashesR w v L) (hB : w.heap.size < B) (hP : gp < B) (hb : Below B W w') (h : SR w w.heap.size gp x1 x2 x3 y1 y2 y3 y4 y5 v L W) : SR w w.heap.size gp x1 x2 x3 y1 y2 y3 y4 y5 v L w' :=
  have hbw : Below w.heap.size w w' := h.2.2.2.2.2.2.2.2.2.trans (hb.mono (Nat.le_of_lt hB))
  ⟨(hb.cell hB).trans h.1, (hb.cell hB).trans h.2.1, (hb.cell hB).trans h.2.2.1, (hb.cell hP).trans h.2.2.2.1, (hb.cell hP).trans h.2.2.2.2.1, (hb.cell hP).trans h.2.2.2.2.2.1, (hb.cell hP).trans h.2.2.2.2.2.2.1, (hb.cell hP).trans h.2.2.2.2.2.2.2.1, hv.below hbw, hbw⟩
/-- What the thin functions give. -/
def RetReh (w : World) (R : List (List Nat)) (r : Ending) (w' : World) : Prop := ∃ v, r = .returned (.tuple #[v, .bool true]) ∧ HashesR w' v R ∧ Below w.heap.size w w'
set_option maxHeartbeats 2000000 in
theorem rehIncl_c (h : Pl.HF) (ok : h.ok) (i s b e el ei : Nat) (N : List (Nat × Nat)) (v : Value) (H : List (List Nat)) (w : World) (hT : Tab w) (HI : ∀ W, Tab W → Calls Tryf.prog 21 #[.int .u64 (i : Int), .int .u64 (s : Int)] W (RetPlanT W N b e el ei)) (hv : HashesR w v H) (hf : Fits H) (hN : N.length = H.length) (he : e ≤ H.length) :
    Calls Tryf.prog 15 #[hashV h, .int .u64 (i : Int), .int .u64 (s : Int), v] w (RetReh w (Pl.reh h H b e)) := by
  have HC : Hid (∀ (W : World) (g0 gp : Nat) (x1 x2 x3 y1 y2 y3 y4 y5 : Value), SR w g0 gp x1 x2 x3 y1 y2 y3 y4 y5 v H W → Calls Tryf.prog 20 #[v] W fun r w' => ∃ u, r = .returned u ∧ Built w' W.heap.size u H ∧ Below W.heap.size W w' ∧ g0 < W.heap.size ∧ gp < W.heap.size) :=
    Lib.hid (fun W g0 gp _ _ _ _ _ _ _ _ S => (copied_c v H W S.2.2.2.2.2.2.2.2.1 hf).mono fun _ _ ⟨u, e1, b1, b2⟩ => ⟨u, e1, b1, b2, World.block_lt_of_cell? W _ S.1, World.block_lt_of_cell? W _ S.2.2.2.1⟩)
  have HR : Hid (∀ (Ai : Option Addr) (ci : Nat) (A : Option Addr) (cap base : Nat) (W : World), (Built W base (.slice A H.length cap) H) → base ≤ W.heap.size → Calls Tryf.prog 29 #[.agg #[.slice Ai H.length ci, .int .i64 (b : Int), .int .i64 (e : Int), .int .u64 (el : Int), .int .u64 (ei : Int)], .slice A H.length cap, .func (.func 30) #[hashV h] #[]] W fun r w' => ∃ v, r = .returned (.tuple #[v, .nilIface]) ∧ HashesR w' v (Pl.reh h H b e) ∧ Below base W w') :=
    Lib.hid (fun Ai ci A cap base W hB hb => rehash_c h ok Ai ci b e el ei A cap H base W (hB.row).2 (hB.row).1 he hf.1 hb)
  have HII := Lib.hid HI
  have HTT := Lib.hid hT
  have HV := Lib.hid hv
  generalize Pl.reh h H b e = res at HR ⊢
  have hHl : (H.length : Int) ≤ 2147483647 := by have := hf.1; omega
  clear HI hT hv hf he ok
  generalize hn : H.length = n at *
  have HBL := Lib.hid (fun (w : World) (b : Nat) (v : Value) (h : Built w b v H) => h.form)
  rw [hn] at HBL
  clear hn
  obtain ⟨Ah, Bh, Ch⟩ := h
  unfold hashV at HR ⊢
  simp only [] at HR ⊢
  go_enter Tryf.func15, Tryf.ntmps15
  go_wp2_with fail
  have hb0 := (Below.refl w.heap.size w).alloc (Nat.le_refl _) (.cells #[.int .u32 (Ah : Int), .int .u32 (Bh : Int), .int .u32 (Ch : Int)] 24)
  refine (HII.out _ (HTT.out.below hb0)).mono ?_
  rintro r w1 ⟨v1, rfl, hv1, hb1⟩
  obtain ⟨Ai, ci, rfl, _, _⟩ := id hv1
  rw [hN]
  have hb2 := hb0.trans (hb1.mono (by simp))
  have c1 := (hb1.cell (p := ⟨w.heap.size, 0, none⟩) (by simp)).trans (show (w.alloc (.cells #[.int .u32 (Ah : Int), .int .u32 (Bh : Int), .int .u32 (Ch : Int)] 24)).cell? ⟨w.heap.size, 0, none⟩ = some (.int .u32 (Ah : Int)) by simp)
  have c2 := (hb1.cell (p := ⟨w.heap.size, 1, none⟩) (by simp)).trans (show (w.alloc (.cells #[.int .u32 (Ah : Int), .int .u32 (Bh : Int), .int .u32 (Ch : Int)] 24)).cell? ⟨w.heap.size, 1, none⟩ = some (.int .u32 (Bh : Int)) by simp)
  have c3 := (hb1.cell (p := ⟨w.heap.size, 2, none⟩) (by simp)).trans (show (w.alloc (.cells #[.int .u32 (Ah : Int), .int .u32 (Bh : Int), .int .u32 (Ch : Int)] 24)).cell? ⟨w.heap.size, 2, none⟩ = some (.int .u32 (Ch : Int)) by simp)
  clear hb0 hb1 hv1 HII HTT
  have hb3 := hb2.alloc hb2.size (.cells #[.slice Ai n ci, .int .i64 (b : Int), .int .i64 (e : Int), .int .u64 (el : Int), .int .u64 (ei : Int)] 62)
  have d1 := (((Below.refl w1.heap.size w1).alloc (Nat.le_refl _) (.cells #[.slice Ai n ci, .int .i64 (b : Int), .int .i64 (e : Int), .int .u64 (el : Int), .int .u64 (ei : Int)] 62)).cell (World.block_lt_of_cell? w1 _ c1)).trans c1
  have d2 := (((Below.refl w1.heap.size w1).alloc (Nat.le_refl _) (.cells #[.slice Ai n ci, .int .i64 (b : Int), .int .i64 (e : Int), .int .u64 (el : Int), .int .u64 (ei : Int)] 62)).cell (World.block_lt_of_cell? w1 _ c2)).trans c2
  have d3 := (((Below.refl w1.heap.size w1).alloc (Nat.le_refl _) (.cells #[.slice Ai n ci, .int .i64 (b : Int), .int .i64 (e : Int), .int .u64 (el : Int), .int .u64 (ei : Int)] 62)).cell (World.block_lt_of_cell? w1 _ c3)).trans c3
  have S0 : SR w w.heap.size w1.heap.size (.int .u32 (Ah : Int)) (.int .u32 (Bh : Int)) (.int .u32 (Ch : Int)) (.slice Ai n ci) (.int .i64 (b : Int)) (.int .i64 (e : Int)) (.int .u64 (el : Int)) (.int .u64 (ei : Int)) v H (w1.alloc (.cells #[.slice Ai n ci, .int .i64 (b : Int), .int .i64 (e : Int), .int .u64 (el : Int), .int .u64 (ei : Int)] 62)).drew :=
    ⟨d1, d2, d3, by simp, by simp, by simp, by simp, by simp, HV.out.below hb3.drew, hb3.drew⟩
  have HK : Hid (∀ (B : Nat) (W w' : World) (gp : Nat) (x1 x2 x3 y1 y2 y3 y4 y5 : Value), w.heap.size < B → gp < B → Below B W w' → SR w w.heap.size gp x1 x2 x3 y1 y2 y3 y4 y5 v H W → SR w w.heap.size gp x1 x2 x3 y1 y2 y3 y4 y5 v H w') := Lib.hid (fun B W w' gp _ _ _ _ _ _ _ _ h1 h2 hb S => keepR HV.out h1 h2 hb S)
  clear hb2 hb3 d1 d2 d3 c1 c2 c3
  generalize hg0 : w.heap.size = g0 at *
  have HG : Hid (w.heap.size = g0) := hg0
  clear hg0 HV
  go_wp2_with fail
  generalize hgp : w1.heap.size = gp at *
  go_region_held3 (fun w' => w'.cell? ⟨g0, 0, none⟩ = some (.int .u32 (Ah : Int)) ∧ w'.cell? ⟨g0, 1, none⟩ = some (.int .u32 (Bh : Int)) ∧ w'.cell? ⟨g0, 2, none⟩ = some (.int .u32 (Ch : Int)) ∧ w'.cell? ⟨gp, 0, none⟩ = some (.slice Ai n ci) ∧ w'.cell? ⟨gp, 1, none⟩ = some (.int .i64 (b : Int)) ∧ w'.cell? ⟨gp, 2, none⟩ = some (.int .i64 (e : Int)) ∧ w'.cell? ⟨gp, 3, none⟩ = some (.int .u64 (el : Int)) ∧ w'.cell? ⟨gp, 4, none⟩ = some (.int .u64 (ei : Int)) ∧ HashesR w' v H ∧ Below g0 w w')
    (first | assumption | exact S0 | exact HK.out _ _ _ _ _ _ _ _ _ _ _ _ hl1 hl2 hb (by assumption))
    (first
      | (go_at_call 20; refine (HC.out _ g0 gp (.int .u32 (Ah : Int)) (.int .u32 (Bh : Int)) (.int .u32 (Ch : Int)) (.slice Ai n ci) (.int .i64 (b : Int)) (.int .i64 (e : Int)) (.int .u64 (el : Int)) (.int .u64 (ei : Int)) (by assumption)).mono ?_; rintro r w' ⟨u, rfl, hu, hb, hl1, hl2⟩; obtain ⟨Au, cu, rfl, _⟩ := HBL.out _ _ _ hu)
      | (go_at_call 29; refine (HR.out _ _ _ _ _ _ hu hb.size).mono ?_; rintro r w' ⟨u2, rfl, hu2, hb⟩))
  all_goals
    have hB : w'.cell? ⟨g0, 0, none⟩ = some (.int .u32 (Ah : Int)) ∧ w'.cell? ⟨g0, 1, none⟩ = some (.int .u32 (Bh : Int)) ∧ w'.cell? ⟨g0, 2, none⟩ = some (.int .u32 (Ch : Int)) ∧ w'.cell? ⟨gp, 0, none⟩ = some (.slice Ai n ci) ∧ w'.cell? ⟨gp, 1, none⟩ = some (.int .i64 (b : Int)) ∧ w'.cell? ⟨gp, 2, none⟩ = some (.int .i64 (e : Int)) ∧ w'.cell? ⟨gp, 3, none⟩ = some (.int .u64 (el : Int)) ∧ w'.cell? ⟨gp, 4, none⟩ = some (.int .u64 (ei : Int)) ∧ HashesR w' v H ∧ Below g0 w w' := by assumption
    obtain ⟨Av, cv, rfl, _⟩ := id hu2
    clear S0 HK HC HR HBL hu hb
    go_wp2_with fail
    go_ret2
    exact ⟨_, rfl, hu2, by rw [HG.out]; exact hB.2.2.2.2.2.2.2.2.2⟩
set_option maxHeartbeats 2000000 in
theorem rehCons_c (h : Pl.HF) (ok : h.ok) (i s b e el ei : Nat) (N : List (Nat × Nat)) (v : Value) (H : List (List Nat)) (w : World) (hT : Tab w) (HI : ∀ W, Tab W → Calls Tryf.prog 31 #[.int .u64 (i : Int), .int .u64 (s : Int)] W (RetPlanT W N b e el ei)) (hv : HashesR w v H) (hf : Fits H) (hN : N.length = H.length) (he : e ≤ H.length) :
    Calls Tryf.prog 17 #[hashV h, .int .u64 (i : Int), .int .u64 (s : Int), v] w (RetReh w (Pl.reh h H b e)) := by
  have HC : Hid (∀ (W : World) (g0 gp : Nat) (x1 x2 x3 y1 y2 y3 y4 y5 : Value), SR w g0 gp x1 x2 x3 y1 y2 y3 y4 y5 v H W → Calls Tryf.prog 20 #[v] W fun r w' => ∃ u, r = .returned u ∧ Built w' W.heap.size u H ∧ Below W.heap.size W w' ∧ g0 < W.heap.size ∧ gp < W.heap.size) :=
    Lib.hid (fun W g0 gp _ _ _ _ _ _ _ _ S => (copied_c v H W S.2.2.2.2.2.2.2.2.1 hf).mono fun _ _ ⟨u, e1, b1, b2⟩ => ⟨u, e1, b1, b2, World.block_lt_of_cell? W _ S.1, World.block_lt_of_cell? W _ S.2.2.2.1⟩)
  have HR : Hid (∀ (Ai : Option Addr) (ci : Nat) (A : Option Addr) (cap base : Nat) (W : World), (Built W base (.slice A H.length cap) H) → base ≤ W.heap.size → Calls Tryf.prog 29 #[.agg #[.slice Ai H.length ci, .int .i64 (b : Int), .int .i64 (e : Int), .int .u64 (el : Int), .int .u64 (ei : Int)], .slice A H.length cap, .func (.func 30) #[hashV h] #[]] W fun r w' => ∃ v, r = .returned (.tuple #[v, .nilIface]) ∧ HashesR w' v (Pl.reh h H b e) ∧ Below base W w') :=
    Lib.hid (fun Ai ci A cap base W hB hb => rehash_c h ok Ai ci b e el ei A cap H base W (hB.row).2 (hB.row).1 he hf.1 hb)
  have HII := Lib.hid HI
  have HTT := Lib.hid hT
  have HV := Lib.hid hv
  generalize Pl.reh h H b e = res at HR ⊢
  have hHl : (H.length : Int) ≤ 2147483647 := by have := hf.1; omega
  clear HI hT hv hf he ok
  generalize hn : H.length = n at *
  have HBL := Lib.hid (fun (w : World) (b : Nat) (v : Value) (h : Built w b v H) => h.form)
  rw [hn] at HBL
  clear hn
  obtain ⟨Ah, Bh, Ch⟩ := h
  unfold hashV at HR ⊢
  simp only [] at HR ⊢
  go_enter Tryf.func17, Tryf.ntmps17
  go_wp2_with fail
  have hb0 := (Below.refl w.heap.size w).alloc (Nat.le_refl _) (.cells #[.int .u32 (Ah : Int), .int .u32 (Bh : Int), .int .u32 (Ch : Int)] 24)
  refine (HII.out _ (HTT.out.below hb0)).mono ?_
  rintro r w1 ⟨v1, rfl, hv1, hb1⟩
  obtain ⟨Ai, ci, rfl, _, _⟩ := id hv1
  rw [hN]
  have hb2 := hb0.trans (hb1.mono (by simp))
  have c1 := (hb1.cell (p := ⟨w.heap.size, 0, none⟩) (by simp)).trans (show (w.alloc (.cells #[.int .u32 (Ah : Int), .int .u32 (Bh : Int), .int .u32 (Ch : Int)] 24)).cell? ⟨w.heap.size, 0, none⟩ = some (.int .u32 (Ah : Int)) by simp)
  have c2 := (hb1.cell (p := ⟨w.heap.size, 1, none⟩) (by simp)).trans (show (w.alloc (.cells #[.int .u32 (Ah : Int), .int .u32 (Bh : Int), .int .u32 (Ch : Int)] 24)).cell? ⟨w.heap.size, 1, none⟩ = some (.int .u32 (Bh : Int)) by simp)
  have c3 := (hb1.cell (p := ⟨w.heap.size, 2, none⟩) (by simp)).trans (show (w.alloc (.cells #[.int .u32 (Ah : Int), .int .u32 (Bh : Int), .int .u32 (Ch : Int)] 24)).cell? ⟨w.heap.size, 2, none⟩ = some (.int .u32 (Ch : Int)) by simp)
  clear hb0 hb1 hv1 HII HTT
  have hb3 := hb2.alloc hb2.size (.cells #[.slice Ai n ci, .int .i64 (b : Int), .int .i64 (e : Int), .int .u64 (el : Int), .int .u64 (ei : Int)] 62)
  have d1 := (((Below.refl w1.heap.size w1).alloc (Nat.le_refl _) (.cells #[.slice Ai n ci, .int .i64 (b : Int), .int .i64 (e : Int), .int .u64 (el : Int), .int .u64 (ei : Int)] 62)).cell (World.block_lt_of_cell? w1 _ c1)).trans c1
  have d2 := (((Below.refl w1.heap.size w1).alloc (Nat.le_refl _) (.cells #[.slice Ai n ci, .int .i64 (b : Int), .int .i64 (e : Int), .int .u64 (el : Int), .int .u64 (ei : Int)] 62)).cell (World.block_lt_of_cell? w1 _ c2)).trans c2
  have d3 := (((Below.refl w1.heap.size w1).alloc (Nat.le_refl _) (.cells #[.slice Ai n ci, .int .i64 (b : Int), .int .i64 (e : Int), .int .u64 (el : Int), .int .u64 (ei : Int)] 62)).cell (World.block_lt_of_cell? w1 _ c3)).trans c3
  have S0 : SR w w.heap.size w1.heap.size (.int .u32 (Ah : Int)) (.int .u32 (Bh : Int)) (.int .u32 (Ch : Int)) (.slice Ai n ci) (.int .i64 (b : Int)) (.int .i64 (e : Int)) (.int .u64 (el : Int)) (.int .u64 (ei : Int)) v H (w1.alloc (.cells #[.slice Ai n ci, .int .i64 (b : Int), .int .i64 (e : Int), .int .u64 (el : Int), .int .u64 (ei : Int)] 62)).drew :=
    ⟨d1, d2, d3, by simp, by simp, by simp, by simp, by simp, HV.out.below hb3.drew, hb3.drew⟩
  have HK : Hid (∀ (B : Nat) (W w' : World) (gp : Nat) (x1 x2 x3 y1 y2 y3 y4 y5 : Value), w.heap.size < B → gp < B → Below B W w' → SR w w.heap.size gp x1 x2 x3 y1 y2 y3 y4 y5 v H W → SR w w.heap.size gp x1 x2 x3 y1 y2 y3 y4 y5 v H w') := Lib.hid (fun B W w' gp _ _ _ _ _ _ _ _ h1 h2 hb S => keepR HV.out h1 h2 hb S)
  clear hb2 hb3 d1 d2 d3 c1 c2 c3
  generalize hg0 : w.heap.size = g0 at *
  have HG : Hid (w.heap.size = g0) := hg0
  clear hg0 HV
  go_wp2_with fail
  generalize hgp : w1.heap.size = gp at *
  go_region_held3 (fun w' => w'.cell? ⟨g0, 0, none⟩ = some (.int .u32 (Ah : Int)) ∧ w'.cell? ⟨g0, 1, none⟩ = some (.int .u32 (Bh : Int)) ∧ w'.cell? ⟨g0, 2, none⟩ = some (.int .u32 (Ch : Int)) ∧ w'.cell? ⟨gp, 0, none⟩ = some (.slice Ai n ci) ∧ w'.cell? ⟨gp, 1, none⟩ = some (.int .i64 (b : Int)) ∧ w'.cell? ⟨gp, 2, none⟩ = some (.int .i64 (e : Int)) ∧ w'.cell? ⟨gp, 3, none⟩ = some (.int .u64 (el : Int)) ∧ w'.cell? ⟨gp, 4, none⟩ = some (.int .u64 (ei : Int)) ∧ HashesR w' v H ∧ Below g0 w w')
    (first | assumption | exact S0 | exact HK.out _ _ _ _ _ _ _ _ _ _ _ _ hl1 hl2 hb (by assumption))
    (first
      | (go_at_call 20; refine (HC.out _ g0 gp (.int .u32 (Ah : Int)) (.int .u32 (Bh : Int)) (.int .u32 (Ch : Int)) (.slice Ai n ci) (.int .i64 (b : Int)) (.int .i64 (e : Int)) (.int .u64 (el : Int)) (.int .u64 (ei : Int)) (by assumption)).mono ?_; rintro r w' ⟨u, rfl, hu, hb, hl1, hl2⟩; obtain ⟨Au, cu, rfl, _⟩ := HBL.out _ _ _ hu)
      | (go_at_call 29; refine (HR.out _ _ _ _ _ _ hu hb.size).mono ?_; rintro r w' ⟨u2, rfl, hu2, hb⟩))
  all_goals
    have hB : w'.cell? ⟨g0, 0, none⟩ = some (.int .u32 (Ah : Int)) ∧ w'.cell? ⟨g0, 1, none⟩ = some (.int .u32 (Bh : Int)) ∧ w'.cell? ⟨g0, 2, none⟩ = some (.int .u32 (Ch : Int)) ∧ w'.cell? ⟨gp, 0, none⟩ = some (.slice Ai n ci) ∧ w'.cell? ⟨gp, 1, none⟩ = some (.int .i64 (b : Int)) ∧ w'.cell? ⟨gp, 2, none⟩ = some (.int .i64 (e : Int)) ∧ w'.cell? ⟨gp, 3, none⟩ = some (.int .u64 (el : Int)) ∧ w'.cell? ⟨gp, 4, none⟩ = some (.int .u64 (ei : Int)) ∧ HashesR w' v H ∧ Below g0 w w' := by assumption
    obtain ⟨Av, cv, rfl, _⟩ := id hu2
    clear S0 HK HC HR HBL hu hb
    go_wp2_with fail
    go_ret2
    exact ⟨_, rfl, hu2, by rw [HG.out]; exact hB.2.2.2.2.2.2.2.2.2⟩
end Go.Proofs.YtobnmgnnidhfkaaFmt
