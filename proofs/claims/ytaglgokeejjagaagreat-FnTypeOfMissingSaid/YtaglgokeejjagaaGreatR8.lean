/- The rows of an object without one of its properties, as the law FnTypeOfMissing lays them. -/
import Derived.Test.YtaglgokeejjagaaGreatApp
import Derived.Test.YtaglgokeejjagaaGreatMiss
namespace Go.Proofs.YtaglgokeejjagaaGreat
set_option linter.unusedVariables false
set_option linter.unusedSimpArgs false
open Go.RowKit Go.Sort

def strV (l : List ByteArray) : List Value := l.map Value.string
/-- Where the region stands: the keys' row, the kids' row, the block of the object. -/
structure R8 (B : Nat) (w : World) (lk : List ByteArray) (ll : List (List Value)) (kv lv pv : Value) (hp : Bool) (w' : World) : Prop where
  bel : Below B w w'
  sz : B ≤ w'.heap.size
  ks : w'.ownsRow B 9 1 kv lk.length (strV lk)
  ls : w'.ownsRow B 29 4 lv ll.length ll.flatten
  ne : ∀ g, kv.ownBlock = some g → lv.ownBlock ≠ some g
  pt : hp = true → ∃ pb, pv = .pointer (some ⟨pb, 0, none⟩) ∧ B ≤ pb ∧ w'.heap[pb]? = some (.cells #[.int .i64 0, .string ⟨#[]⟩, .slice none 0 0, .slice none 0 0] 29 (0, 0)) ∧ kv.ownBlock ≠ some pb ∧ lv.ownBlock ≠ some pb

theorem rows_keep {w w' : World} {B e sz n : Nat} {v : Value} {xs : List Value} {r : Option Nat} (h : w.ownsRow B e sz v n xs) (hg : w.grownBy w' r) (hr : ∀ k, v.ownBlock = some k → r ≠ some k) : w'.ownsRow B e sz v n xs := by
  refine ⟨h.1, ?_⟩
  rcases h.2 with hn | ⟨g, cap, cur, rfl, hbg, hgg, rest⟩
  · exact .inl hn
  · exact .inr ⟨g, cap, cur, rfl, hbg, by rw [hg.block g (lt_blk hgg) (fun e => hr g rfl e.symm)]; exact hgg, rest⟩
theorem own_lt {w : World} {B e sz n : Nat} {v : Value} {xs : List Value} (h : w.ownsRow B e sz v n xs) : ∀ k, v.ownBlock = some k → B ≤ k ∧ k < w.heap.size := h.lt

theorem R8.start {w : World} {B : Nat} (hB : B ≤ w.heap.size) (pv : Value) : R8 B w [] [] (.slice none 0 0) (.slice none 0 0) pv false w.drew :=
  ⟨(Below.refl _ _).drew, hB, World.ownsRow_nil _ _ _ _, World.ownsRow_nil _ _ _ _, fun g h => by simp [Value.ownBlock] at h, fun h => by cases h⟩

section
variable {B : Nat} {w w' : World} {lk : List ByteArray} {ll : List (List Value)} {kv lv pv : Value} {hp : Bool}
theorem R8.alloc_gen (h : R8 B w lk ll kv lv pv hp w') (o : Obj) : R8 B w lk ll kv lv pv hp (w'.alloc o) :=
  ⟨h.bel.alloc h.sz o, by have := h.sz; simp; omega, rows_keep h.ks (World.grownBy_alloc w' o none) (fun k e => by simp), rows_keep h.ls (World.grownBy_alloc w' o none) (fun k e => by simp), h.ne, fun e => by
    obtain ⟨pb, e1, e2, e3, e4⟩ := h.pt e
    exact ⟨pb, e1, e2, al_old e3, e4⟩⟩
theorem R8.made_k (h : R8 B w [] ll (.slice none 0 0) lv pv hp w') : R8 B w [] ll (.slice (some ⟨w'.heap.size, 0, none⟩) 0 0) lv pv hp (w'.alloc (.cells #[] 9)) := by
  have g := h.alloc_gen (.cells #[] 9)
  refine ⟨g.bel, g.sz, ⟨rfl, .inr ⟨w'.heap.size, 0, #[], rfl, h.sz, al_new rfl, Nat.le_refl _, Nat.zero_le _, rfl, rfl⟩⟩, g.ls, fun k e e2 => ?_, fun e => ?_⟩
  · simp only [Value.ownBlock, Option.some.injEq] at e
    have := (own_lt h.ls k e2).2; omega
  · obtain ⟨pb, e1, e2, e3, e4, e5⟩ := g.pt e
    refine ⟨pb, e1, e2, e3, fun e6 => ?_, e5⟩
    simp only [Value.ownBlock, Option.some.injEq] at e6
    obtain ⟨pb', f1, f2, f3, _⟩ := h.pt e
    rw [e1] at f1; cases f1
    have := lt_blk f3; omega
theorem R8.made_l (h : R8 B w lk [] kv (.slice none 0 0) pv hp w') : R8 B w lk [] kv (.slice (some ⟨w'.heap.size, 0, none⟩) 0 0) pv hp (w'.alloc (.cells #[] 29)) := by
  have g := h.alloc_gen (.cells #[] 29)
  refine ⟨g.bel, g.sz, g.ks, ⟨rfl, .inr ⟨w'.heap.size, 0, #[], rfl, h.sz, al_new rfl, Nat.le_refl _, Nat.zero_le _, rfl, rfl⟩⟩, fun k e e2 => ?_, fun e => ?_⟩
  · simp only [Value.ownBlock, Option.some.injEq] at e2
    have := (own_lt h.ks k e).2; omega
  · obtain ⟨pb, e1, e2, e3, e4, e5⟩ := g.pt e
    refine ⟨pb, e1, e2, e3, e4, fun e6 => ?_⟩
    simp only [Value.ownBlock, Option.some.injEq] at e6
    obtain ⟨pb', f1, f2, f3, _⟩ := h.pt e
    rw [e1] at f1; cases f1
    have := lt_blk f3; omega
theorem R8.made_p (h : R8 B w lk ll kv lv pv hp w') : R8 B w lk ll kv lv (.pointer (some ⟨w'.heap.size, 0, none⟩)) true (w'.alloc (.cells #[.int .i64 0, .string ⟨#[]⟩, .slice none 0 0, .slice none 0 0] 29)) := by
  have g := h.alloc_gen (.cells #[.int .i64 0, .string ⟨#[]⟩, .slice none 0 0, .slice none 0 0] 29)
  refine ⟨g.bel, g.sz, g.ks, g.ls, g.ne, fun _ => ⟨_, rfl, h.sz, al_new rfl, fun e => ?_, fun e => ?_⟩⟩
  · have := (own_lt h.ks _ e).2; omega
  · have := (own_lt h.ls _ e).2; omega
theorem R8.app_k (h : R8 B w lk ll kv lv pv hp w') {l2 : List ByteArray} {v' : Value} {w2 : World} (ho : w2.ownsRow B 9 1 v' (lk.length + l2.length) (strV lk ++ strV l2)) (hg : w'.grownBy w2 kv.ownBlock) (hat : v'.ownBlock = kv.ownBlock ∨ v'.ownBlock = some w'.heap.size) : R8 B w (lk ++ l2) ll v' lv pv hp w2 := by
  have hl := own_lt h.ks
  refine ⟨h.bel.grown hg h.sz (fun k e => (hl k e).1), Nat.le_trans h.sz hg.size, by rw [List.length_append]; unfold strV at *; rw [List.map_append]; exact ho, rows_keep h.ls hg (fun k e e2 => h.ne k e2 e), fun k e e2 => ?_, fun e => ?_⟩
  · rcases hat with h1 | h1
    · exact h.ne k (h1 ▸ e) e2
    · rw [h1] at e; cases e
      have := (own_lt h.ls _ e2).2; omega
  · obtain ⟨pb, e1, e2, e3, e4, e5⟩ := h.pt e
    have hlt := lt_blk e3
    refine ⟨pb, e1, e2, by rw [hg.block pb hlt (fun e => e4 e.symm)]; exact e3, fun e6 => ?_, e5⟩
    rcases hat with h1 | h1
    · exact e4 (h1 ▸ e6)
    · rw [h1] at e6; cases e6; omega
theorem R8.app_l (h : R8 B w lk ll kv lv pv hp w') {l2 : List (List Value)} {v' : Value} {w2 : World} (ho : w2.ownsRow B 29 4 v' (ll.length + l2.length) (ll.flatten ++ l2.flatten)) (hg : w'.grownBy w2 lv.ownBlock) (hat : v'.ownBlock = lv.ownBlock ∨ v'.ownBlock = some w'.heap.size) : R8 B w lk (ll ++ l2) kv v' pv hp w2 := by
  have hl := own_lt h.ls
  refine ⟨h.bel.grown hg h.sz (fun k e => (hl k e).1), Nat.le_trans h.sz hg.size, rows_keep h.ks hg (fun k e e2 => h.ne k e e2), by rw [List.length_append, List.flatten_append]; exact ho, fun k e e2 => ?_, fun e => ?_⟩
  · rcases hat with h1 | h1
    · exact h.ne k e (h1 ▸ e2)
    · rw [h1] at e2; cases e2
      have := (own_lt h.ks _ e).2; omega
  · obtain ⟨pb, e1, e2, e3, e4, e5⟩ := h.pt e
    have hlt := lt_blk e3
    refine ⟨pb, e1, e2, by rw [hg.block pb hlt (fun e => e5 e.symm)]; exact e3, e4, fun e6 => ?_⟩
    rcases hat with h1 | h1
    · exact e5 (h1 ▸ e6)
    · rw [h1] at e6; cases e6; omega
end

/-! ### what is appended -/
theorem flat_get : ∀ {l : List (List Value)} (h4 : ∀ c ∈ l, c.length = 4) {j : Nat} {u : Value}, l.flatten[j]? = some u → ∃ i r, ∃ (hi : i < l.length), j = i * 4 + r ∧ l[i][r]? = some u
  | [], _, j, u, h => by simp at h
  | c :: l, h4, j, u, h => by
    have hc := h4 c List.mem_cons_self
    rw [List.flatten_cons] at h
    by_cases hj : j < c.length
    · rw [List.getElem?_append_left hj] at h
      exact ⟨0, j, by simp, by omega, h⟩
    · rw [List.getElem?_append_right (by omega)] at h
      obtain ⟨i, r, hi, e, hu⟩ := flat_get (fun c hc => h4 c (List.mem_cons_of_mem _ hc)) h
      exact ⟨i + 1, r, by simp; omega, by omega, by simpa using hu⟩
theorem add_at (b o i j : Nat) : ((⟨b, o + i, none⟩ : Addr).add j) = ⟨b, o + i + j, none⟩ := by unfold Addr.add; by_cases h : j = 0 <;> simp [h]
theorem add_at0 (b o j : Nat) : ((⟨b, o, none⟩ : Addr).add j) = ⟨b, o + j, none⟩ := by unfold Addr.add; by_cases h : j = 0 <;> simp [h]
/-- The cells of a part of the kids. -/
theorem kids_cells {m : Mem} {b off : Nat} {kc : List (List Value)} (h4 : ∀ c ∈ kc, c.length = 4) (hr : ∀ i (hi : i < kc.length) j u, kc[i][j]? = some u → m ⟨b, off + i * 4 + j, none⟩ = some u) (s : Nat) (l : List (List Value)) (hl : ∀ i (h : i < l.length), ∃ (h2 : s + i < kc.length), l[i] = kc[s + i]) :
    ∀ j u, l.flatten[j]? = some u → m ⟨b, off + s * 4 + j, none⟩ = some u := by
  intro j u hu
  obtain ⟨i, r, hi, rfl, hu2⟩ := flat_get (fun c hc => by
    obtain ⟨i, hi, rfl⟩ := List.getElem_of_mem hc
    obtain ⟨h2, e⟩ := hl i hi
    rw [e]; exact h4 _ (List.getElem_mem _)) hu
  obtain ⟨h2, e⟩ := hl i hi
  rw [e] at hu2
  have := hr (s + i) h2 r u hu2
  rw [show off + s * 4 + (i * 4 + r) = off + (s + i) * 4 + r by omega]
  exact this
theorem keys_cells {m : Mem} {b off : Nat} {ks : List ByteArray} (hr : ∀ i (hi : i < ks.length), m ⟨b, off + i, none⟩ = some (.string ks[i])) (s : Nat) (l : List ByteArray) (hl : ∀ i (h : i < l.length), ∃ (h2 : s + i < ks.length), l[i] = ks[s + i]) :
    ∀ j u, (strV l)[j]? = some u → m ⟨b, off + s + j, none⟩ = some u := by
  intro j u hu
  unfold strV at hu
  have hj : j < l.length := by have := (List.getElem?_eq_some_iff.1 hu).1; simpa using this
  obtain ⟨h2, e⟩ := hl j hj
  rw [List.getElem?_map, List.getElem?_eq_getElem hj] at hu
  simp only [Option.map_some, Option.some.injEq] at hu
  rw [← hu, e, Nat.add_assoc]
  exact hr _ h2
end Go.Proofs.YtaglgokeejjagaaGreat
