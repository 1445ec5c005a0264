/- What the rows of R8 read as. -/
import Derived.Test.YtaglgokeejjagaaGreatR8
namespace Go.Proofs.YtaglgokeejjagaaGreat
set_option linter.unusedVariables false
set_option linter.unusedSimpArgs false
open Go.RowKit Go.Sort
theorem own_rowS {w : World} {B : Nat} {v : Value} {l : List ByteArray} (h : w.ownsRow B 9 1 v l.length (strV l)) : ∃ a c, v = .slice a l.length c ∧ lenOk l.length c ∧ RowS w.cell? a l := by
  have hc := @World.ownsRow.cells
  rcases h.2 with ⟨rfl, h0⟩ | ⟨g, cap, cur, rfl, hb, hg, h1, h2, h3, h4⟩
  · exact ⟨none, 0, by rw [h0], ⟨by omega, by decide⟩, fun hn => by omega⟩
  · refine ⟨_, cap, rfl, ⟨h1, Nat.le_trans h2 (by simp [maxLen])⟩, fun hn => ⟨g, 0, rfl, fun i hi j u hu => ?_⟩⟩
    change (strCells (l.getD i default))[j]? = some u at hu
    have e1 : l.getD i default = l[i] := getD_eq _ _ hi
    rw [e1] at hu
    obtain rfl : j = 0 := by
      have := (List.getElem?_eq_some_iff.1 hu).1
      simp [strCells] at this; exact this
    simp only [strCells, List.getElem?_cons_zero, Option.some.injEq] at hu
    subst hu
    have := h.cells (g := g) rfl i (.string l[i]) (by simp [strV, hi])
    rw [add_at0] at this
    simpa using this
theorem flat_at : ∀ {l : List (List Value)} (h4 : ∀ c ∈ l, c.length = 4) {i j : Nat} {u : Value} (hi : i < l.length), l[i][j]? = some u → l.flatten[i * 4 + j]? = some u
  | [], _, i, j, u, hi, _ => by simp at hi
  | c :: l, h4, 0, j, u, hi, h => by
    simp only [List.getElem_cons_zero] at h
    have hj := (List.getElem?_eq_some_iff.1 h).1
    rw [List.flatten_cons, Nat.zero_mul, Nat.zero_add, List.getElem?_append_left hj]; exact h
  | c :: l, h4, i + 1, j, u, hi, h => by
    simp only [List.getElem_cons_succ] at h
    have := flat_at (fun c hc => h4 c (List.mem_cons_of_mem _ hc)) (by simpa using hi) h
    rw [List.flatten_cons, List.getElem?_append_right (by rw [h4 c List.mem_cons_self]; omega), h4 c List.mem_cons_self, show (i + 1) * 4 + j - 4 = i * 4 + j by omega]
    exact this
theorem own_rowV {w : World} {B : Nat} {v : Value} {l : List (List Value)} {ts : List Vl} (h : w.ownsRow B 29 4 v l.length l.flatten) (h4 : ∀ c ∈ l, c.length = 4) (hl : l.length = ts.length) (hm : ∀ i (h1 : i < l.length) (h2 : i < ts.length), MV w.cell? l[i] ts[i]) : ∃ a c, v = .slice a ts.length c ∧ lenOk ts.length c ∧ RowV w.cell? a ts := by
  rcases h.2 with ⟨rfl, h0⟩ | ⟨g, cap, cur, rfl, hb, hg, h1, h2, h3, h5⟩
  · have hts : ts = [] := List.eq_nil_of_length_eq_zero (by omega)
    subst hts
    exact ⟨none, 0, rfl, ⟨Nat.le_refl _, by decide⟩, fun _ => [], fun hn => absurd hn (Nat.lt_irrefl _), fun i hi => absurd hi (Nat.not_lt_zero _)⟩
  · refine ⟨_, cap, by rw [hl], by rw [← hl]; exact ⟨h1, Nat.le_trans h2 (by simp [maxLen])⟩, fun i => l.getD i [], fun hn => ⟨g, 0, rfl, fun i hi j u hu => ?_⟩, fun i hi => ?_⟩
    · have hi' : i < l.length := by omega
      change (l.getD i [])[j]? = some u at hu
      rw [getD_eq _ _ hi'] at hu
      have := h.cells (g := g) rfl (i * 4 + j) u (flat_at h4 hi' hu)
      rw [add_at0] at this
      rw [Nat.add_assoc]
      exact this
    · have hi' : i < l.length := by omega
      show MV _ (l.getD i []) _
      rw [getD_eq _ _ hi']
      exact hm i hi' hi
end Go.Proofs.YtaglgokeejjagaaGreat
