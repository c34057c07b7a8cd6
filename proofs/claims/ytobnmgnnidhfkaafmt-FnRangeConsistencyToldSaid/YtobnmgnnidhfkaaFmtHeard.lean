/- The hashes of a plan's nodes, as they are heard among the told nodes. -/
import Derived.Test.YtobnmgnnidhfkaaFmtMergeW
import Derived.Test.YtobnmgnnidhfkaaFmtHashOf
import Derived.Test.YtobnmgnnidhfkaaFmtKeep
import Derived.Test.YtobnmgnnidhfkaaFmtImplApp
namespace Go.Proofs.YtobnmgnnidhfkaaFmt
open Go.ChangeShapes Go.WideShapes Go.ChangeAt Go.RowKit
set_option maxRecDepth 20000
theorem heard_yes (G : List SeenN) (j l i : Nat) (hj : j < G.length) (h : G[j].1 = l ∧ G[j].2.1 = i) : Pl.heard (G.take (j + 1)) l i = Pl.heard (G.take j) l i ++ [G[j].2.2] := by
  rw [take_snoc G j hj, Pl.heard_append]
  simp [Pl.heard, h.1, h.2]
theorem heard_no (G : List SeenN) (j l i : Nat) (hj : j < G.length) (h : ¬ (G[j].1 = l ∧ G[j].2.1 = i)) : Pl.heard (G.take (j + 1)) l i = Pl.heard (G.take j) l i := by
  rw [take_snoc G j hj, Pl.heard_append]
  have : (G[j].1 == l && G[j].2.1 == i) = false := by
    rw [Bool.eq_false_iff]
    intro h'
    simp at h'
    exact h h'
  simp [Pl.heard, this]
theorem heard_len (G : List SeenN) (l i : Nat) : (Pl.heard G l i).length ≤ G.length := by
  unfold Pl.heard
  rw [List.length_map]
  exact List.length_filter_le _ _
/-- The list behind j told nodes, for the node k of the plan. -/
def hl2 (h : Pl.HF) (P : List (List Nat)) (N : List (Nat × Nat)) (G : List SeenN) (k j l i : Nat) : List (List Nat) := nodeHs h P (N.take k) ++ Pl.heard (G.take j) l i
theorem hl2_start (h : Pl.HF) (P : List (List Nat)) (N : List (Nat × Nat)) (G : List SeenN) (k l i : Nat) : hl2 h P N G k 0 l i = nodeHs h P (N.take k) := by
  unfold hl2
  simp [Pl.heard]
theorem hl2_yes (h : Pl.HF) (P : List (List Nat)) (N : List (Nat × Nat)) (G : List SeenN) (k j l i : Nat) (hj : j < G.length) (hh : G[j].1 = l ∧ G[j].2.1 = i) : hl2 h P N G k (j + 1) l i = hl2 h P N G k j l i ++ [G[j].2.2] := by
  unfold hl2
  rw [heard_yes G j l i hj hh, List.append_assoc]
theorem hl2_no (h : Pl.HF) (P : List (List Nat)) (N : List (Nat × Nat)) (G : List SeenN) (k j l i : Nat) (hj : j < G.length) (hh : ¬ (G[j].1 = l ∧ G[j].2.1 = i)) : hl2 h P N G k (j + 1) l i = hl2 h P N G k j l i := by
  unfold hl2
  rw [heard_no G j l i hj hh]
theorem hl2_end (h : Pl.HF) (P : List (List Nat)) (N : List (Nat × Nat)) (k : Nat) (hk : k < N.length) (ho : OfLeaves P.length N) (hP : P.length ≤ 1000) :
    hl2 h P N (Pl.grownL h (Pl.lv P 0) 0 P.length) k (Pl.grownL h (Pl.lv P 0) 0 P.length).length N[k].1 N[k].2 = nodeHs h P (N.take (k + 1)) := by
  unfold hl2
  rw [List.take_length, nodeHs_take h P N k hk, Pl.heard_grown h _ 0 N[k].1 N[k].2 P.length (by omega) (Nat.zero_le _) (by rw [Nat.zero_add]; exact (ho N[k] (List.getElem_mem hk)).2), lv_zero]
  rfl
theorem hl2_len (h : Pl.HF) (P : List (List Nat)) (N : List (Nat × Nat)) (G : List SeenN) (k j l i : Nat) : (hl2 h P N G k j l i).length ≤ N.length + G.length := by
  unfold hl2
  rw [List.length_append, nodeHs_length]
  have h1 := heard_len (G.take j) l i
  simp only [List.length_take] at *
  omega
/-- append of one hash that lies in a block of bytes: only the row's block is written. -/
theorem wpList_append_builtT {w : World} {ops : Array Oper} {rest : List Oper} {o : Oper} {a : Act} {Q : Exit → Act → World → Prop} (hgd : o.guard = none) (s x : Operand)
    (ho : o.op = .call { callee := .builtin .append, args := #[s, x], argTypes := #[27, 27] }) (base : Nat) (v : Value) (L : List (List Nat)) (hp : Built w base v L) (hs : a.eval s = v) (gB : Nat) (u : Value) (l : List Nat)
    (hx : a.eval x = .slice (some ⟨gB, 0, none⟩) 1 1) (hcell : w.cell? ⟨gB, 0, none⟩ = some u) (hu : BytesT w u l) (hle : L.length ≤ 2147483647) (hbase : base ≤ w.heap.size)
    (h : ∀ A n cap w', Built w' base (.slice A n cap) (L ++ [l]) → Below base w w' → KeepT [26] w w' → wpList Tryf.prog ops Q rest (a.put o.dst (.slice A n cap)) w') :
    wpList Tryf.prog ops Q (o :: rest) a w := by
  obtain ⟨i0, hi, hz0, hz1, hz2⟩ := info_parts bytesInfo
  obtain ⟨us, hown, hul, hus⟩ := hp
  have h1 : ∀ c ∈ [u], c.oneCell' = true := by
    obtain ⟨A, n, c, rfl⟩ := hu.1.form
    simp [Value.oneCell']
  have hoff : 0 < l.length → ∀ g, v.ownBlock = some g → Off g u := fun hl g hg A n c e hA => by
    obtain ⟨cs, fr, hcs⟩ := hu.2 hl A n c e
    rcases hown.2 with ⟨rfl, _⟩ | ⟨g', cap, cur, rfl, _, hh, _⟩
    · cases hg
    · have hg' : some g' = some g := hg
      injection hg' with hg'
      rw [hA, ← hg', hh] at hcs
      injection hcs with hcs
      injection hcs with _ ht _
      revert ht
      decide
  refine wpList_append_own_at w hgd s x 27 ho base 26 i0 (.slice none 0 0) 1 24 Tryf.underlying27 hi hz0 hz1 hz2 rfl (by decide) v L.length us hs hown ⟨gB, 0, none⟩ 1 1 [u] hx rfl (fun j c hj => ?_) h1 (by unfold maxLen; omega) (by omega) hbase (fun v' w' hown' hgrow _ hat => ?_)
  · match j, hj with
    | 0, hj => simp at hj; subst hj; rw [show ((⟨gB, 0, none⟩ : Addr).add 0) = ⟨gB, 0, none⟩ by unfold Addr.add; split <;> simp_all]; exact hcell
  · have hb := Built.push hul hus hu.1 hoff hown' hgrow hat
    obtain ⟨A, c, rfl, _⟩ := own_slice hown'
    exact h A _ c w' hb ((Below.refl _ _).grown hgrow hbase (fun k hk => (hown.lt k hk).1)) (keep_grown hown hgrow)
end Go.Proofs.YtobnmgnnidhfkaaFmt
