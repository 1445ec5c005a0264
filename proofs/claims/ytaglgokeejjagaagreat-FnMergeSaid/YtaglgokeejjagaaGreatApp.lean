/- 'append' of a row of elements onto a row of the call's own: where the new one lies. -/
import Derived.Test.YtaglgokeejjagaaGreatOwn
import Derived.Laws.AppendOwnNone
import Derived.Test.YtaglgokeejjagaaGreatWLast
namespace Go.Proofs.YtaglgokeejjagaaGreat
set_option linter.unusedVariables false
set_option linter.unusedSimpArgs false
open Go.RowKit Go.Sort Go.Proofs.YtaglgokeejjagaaGreatW.PrintLast

theorem wp_app {P : Program} {w : World} {o : Oper} {a : Act} {K : Act → World → Prop} {Q : Exit → Act → World → Prop} (s x : Operand) (t : TypeId)
    (ho : o.op = .call { callee := .builtin .append, args := #[s, x], argTypes := #[t, t] })
    {base e size bytes : Nat} (hT : SlT P t e size bytes)
    (v : Value) (n : Nat) (xs : List Value) (hs : a.eval s = v) (hown : w.ownsRow base e size v n xs)
    (ad : Addr) (m c : Nat) (news : List Value) (hx : a.eval x = .slice (some ad) m c) (hl : news.length = m * size) (hnews : ∀ j u, news[j]? = some u → w.cell? (ad.add j) = some u) (h1 : ∀ u ∈ news, u.oneCell' = true)
    (h63 : n + m ≤ maxLen) (hbytes : (n + m) * bytes ≤ 140737488355328) (hbase : base ≤ w.heap.size)
    (h : ∀ v' w', w'.ownsRow base e size v' (n + m) (xs ++ news) → w.grownBy w' v.ownBlock → (v'.ownBlock = v.ownBlock ∨ v'.ownBlock = some w.heap.size) → K (a.put o.dst v') w') : o.wp P a w K Q := by
  obtain ⟨ht, ⟨i, z, hi, hz, hsize, hby, hzs⟩, hsz⟩ := hT
  by_cases hm : m = 0
  · subst hm
    have hn0 : news = [] := List.eq_nil_of_length_eq_zero (by rw [hl]; simp)
    subst hn0
    rcases hown.2 with ⟨rfl, rfl⟩ | ⟨g, cap, cur, rfl, hb, hg, hnc, hrest⟩
    · refine wp_append_own w s x t ho base e i z size bytes ht hi hz hsize hby hzs hsz _ 0 xs hs hown ad 0 c [] hx hl hnews h1 h63 hbytes hbase fun v' w' h2 h3 h4 => h v' w' h2 h3 ?_
      obtain rfl := h4.2 ⟨rfl, rfl⟩
      exact .inl rfl
    · obtain ⟨w', hrun, r1, r2⟩ := run_append_fits (P := P) (w := w) base t o.type e i size ht hi hsize g n cap xs hown ad 0 c [] hl hnews h1 (by omega)
      unfold Oper.wp execOp
      simp only [ho, resolve, invoke, builtin, Sem.run_bind, Sem.run_pure, Result.andThen_ok, List.map_toArray, List.map_cons, List.map_nil, hs, hx, hrun]
      exact h _ w' r1 r2 (.inl rfl)
  · refine wp_append_lies w s x t ho base e i z size bytes ht hi hz hsize hby hzs hsz v n xs hs hown ad m c news hx hl hnews h1 (by omega) h63 hbytes hbase _ rfl fun g cap w' h2 h3 h4 _ => h _ w' h2 h3 ?_
    rcases h4 with h4 | rfl
    · exact .inl h4.symm
    · exact .inr rfl
theorem step_app {P : Program} {w : World} {ops : Array Oper} {o : Oper} {a : Act} {K : Act → World → Prop} {Q : Exit → Act → World → Prop} {F : Prop} (hgd : o.guard = none) (s x : Operand) (t : TypeId)
    (ho : o.op = .call { callee := .builtin .append, args := #[s, x], argTypes := #[t, t] })
    {base e size bytes : Nat} (hT : SlT P t e size bytes)
    (v : Value) (n : Nat) (xs : List Value) (hs : a.eval s = v) (hown : w.ownsRow base e size v n xs)
    (ad : Addr) (m c : Nat) (news : List Value) (hx : a.eval x = .slice (some ad) m c) (hl : news.length = m * size) (hnews : ∀ j u, news[j]? = some u → w.cell? (ad.add j) = some u) (h1 : ∀ u ∈ news, u.oneCell' = true)
    (h63 : n + m ≤ maxLen) (hbytes : (n + m) * bytes ≤ 140737488355328) (hbase : base ≤ w.heap.size)
    (h : ∀ v' w', w'.ownsRow base e size v' (n + m) (xs ++ news) → w.grownBy w' v.ownBlock → (v'.ownBlock = v.ownBlock ∨ v'.ownBlock = some w.heap.size) → K (a.put o.dst v') w') :
    if Region.wanted o (yielded ops a.tmps) = true then Oper.wp P o a w K Q else F := by
  have hw : Region.wanted o (yielded ops a.tmps) = true := by simp [Region.wanted, hgd]
  rw [if_pos hw]
  exact wp_app s x t ho hT v n xs hs hown ad m c news hx hl hnews h1 h63 hbytes hbase h
end Go.Proofs.YtaglgokeejjagaaGreat
