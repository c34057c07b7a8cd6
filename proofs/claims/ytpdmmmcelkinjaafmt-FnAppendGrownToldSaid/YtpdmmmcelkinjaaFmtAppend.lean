/- append of a whole list, which may be empty (and then nil), to a row of one's own. -/
import Derived.Test.YtpdmmmcelkinjaaFmtRows
import Derived.Maps.AppendAt
import Derived.WalkKit
namespace Go.Proofs.YtpdmmmcelkinjaaFmt
open Go.ChangeShapes Go.WideShapes Go.RowKit
section
variable {P : Program} {w : World}
theorem run_append_none (base : Nat) (t ty e : TypeId) (i : TypeInfo) (size : Nat) (ht : P.underlying t = some (.slice e)) (hi : P.info? e = some i)
    (v : Value) (n : Nat) (xs : List Value) (hown : w.ownsRow base e size v n xs) (c : Nat) :
    (Builtin.append_ #[t, t] ty #[v, .slice none 0 c]).run P w = .ok v w := by
  rcases hown.2 with ⟨rfl, rfl⟩ | ⟨g, cap, cur, rfl, hbg, hg, hnc, hcm, hcs, htake⟩
  · simp [Builtin.append_, run_underlying ht, sizeOf, typeInfo, hi, Builtin.lenOf, Builtin.firstCells]
  · simp [Builtin.append_, run_underlying ht, sizeOf, typeInfo, hi, Builtin.lenOf, Builtin.firstCells, hnc, storeCells]
/-- append(v, x...): x a slice in whatever memory, or nil. -/
theorem wpList_append_list {ops : Array Oper} {rest : List Oper} {o : Oper} {a : Act} {Q : Exit → Act → World → Prop} (hgd : o.guard = none) (s x : Operand) (t : TypeId)
    (ho : o.op = .call { callee := .builtin .append, args := #[s, x], argTypes := #[t, t] })
    (base : Nat) (e : TypeId) (i : TypeInfo) (z : Value) (size bytes : Nat) (ht : P.underlying t = some (.slice e)) (hi : P.info? e = some i) (hz : i.zero = some z)
    (hsize : i.size = size) (hby : i.bytes = bytes) (hzs : z.cells.size = size) (hsz : 0 < size)
    (v : Value) (n : Nat) (xs : List Value) (hs : a.eval s = v) (hown : w.ownsRow base e size v n xs)
    (A : Option Addr) (m c : Nat) (news : List Value) (hx : a.eval x = .slice A m c) (hl : news.length = m * size) (hnews : 0 < m → ∃ ad, A = some ad ∧ ∀ j u, news[j]? = some u → w.cell? (ad.add j) = some u) (h1 : ∀ u ∈ news, u.oneCell' = true)
    (h63 : n + m ≤ maxLen) (hbytes : (n + m) * bytes ≤ 140737488355328) (hbase : base ≤ w.heap.size)
    (h : ∀ v' w', w'.ownsRow base e size v' (n + m) (xs ++ news) → w.grownBy w' v.ownBlock → (v'.ownBlock = v.ownBlock ∨ v'.ownBlock = some w.heap.size) → wpList P ops Q rest (a.put o.dst v') w') : wpList P ops Q (o :: rest) a w := by
  rcases Nat.eq_zero_or_pos m with h0 | h0
  · subst h0
    obtain rfl : news = [] := List.eq_nil_of_length_eq_zero (by simpa using hl)
    cases A with
    | none =>
      refine wpList_plain hgd fun _ hK => ?_
      unfold Oper.wp execOp
      simp only [ho, resolve, invoke, builtin, Sem.run_bind, Sem.run_pure, Result.andThen_ok, List.map_toArray, List.map_cons, List.map_nil, hs, hx, run_append_none base t o.type e i size ht hi v n xs hown c]
      exact hK _ _ (h v w (by simpa using hown) (World.grownBy.refl _ _) (.inl rfl))
    | some ad =>
      exact wpList_append_own_at (w := w) hgd s x t ho base e i z size bytes ht hi hz hsize hby hzs hsz v n xs hs hown ad 0 c [] hx (by simp) (by simp) (by simp) h63 hbytes hbase (fun v' w' a1 a2 _ a4 => h v' w' a1 a2 a4)
  · obtain ⟨ad, rfl, hn⟩ := hnews h0
    exact wpList_append_own_at (w := w) hgd s x t ho base e i z size bytes ht hi hz hsize hby hzs hsz v n xs hs hown ad m c news hx hl hn h1 h63 hbytes hbase (fun v' w' a1 a2 _ a4 => h v' w' a1 a2 a4)
end
end Go.Proofs.YtpdmmmcelkinjaaFmt
