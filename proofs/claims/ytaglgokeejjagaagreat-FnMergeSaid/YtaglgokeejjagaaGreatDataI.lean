/- How the arguments of a law lie in memory: values. -/
import Derived.Test.YtaglgokeejjagaaGreatOwn
import Derived.ProofKit
namespace Go.Proofs.YtaglgokeejjagaaGreat
set_option linter.unusedVariables false
set_option linter.unusedSimpArgs false
open Go.RowKit Go.Sort
variable {H : Type} {enc : TypeId × Value → H} {w : World} {sp : Nat → Bool}

theorem mapM_get {α β : Type} {f : α → Option β} : ∀ {l : List α} {ys : List β}, l.mapM f = some ys → ys.length = l.length ∧ ∀ i (h1 : i < l.length) (h2 : i < ys.length), f l[i] = some ys[i]
  | [], ys, h => by
    simp only [List.mapM_nil, Option.pure_def, Option.some.injEq] at h
    subst h
    exact ⟨rfl, fun i h => absurd h (Nat.not_lt_zero _)⟩
  | a :: l, ys, h => by
    rw [List.mapM_cons] at h
    simp only [Option.bind_eq_bind, Option.bind_eq_some_iff, Option.pure_def, Option.some.injEq] at h
    obtain ⟨y, hy, zs, hz, rfl⟩ := h
    obtain ⟨h1, h2⟩ := mapM_get hz
    refine ⟨by simp [h1], fun i h3 h4 => ?_⟩
    cases i with
    | zero => exact hy
    | succ i => exact h2 i (by simpa using h3) (by simpa using h4)

theorem cells_get {a : Addr} {n : Nat} {cs : List Value} (h : w.cells? 0 a n = some cs) : cs.length = n ∧ ∀ j (h1 : j < cs.length), w.cell? (a.add j) = some cs[j] := by
  unfold World.cells? at h
  rw [if_pos (Nat.zero_le _)] at h
  obtain ⟨h1, h2⟩ := mapM_get h
  have hl : cs.length = n := by simpa using h1
  refine ⟨hl, fun j hj => ?_⟩
  have := h2 j (by simp; omega) hj
  simpa using this

/-- What is read of a slice. -/
theorem trod_slice {n : Nat} {T e sz : TypeId} {c : Value} {x : DataW H × List MemPlace} (hu : Tryz.prog.underlying T = some (.slice e)) (hs : Tryz.prog.cellsOf e = sz) (hz : 0 < sz) (h : DataW.trod enc Tryz.prog w 0 sp true (n + 1) T [c] = some x) :
    (c = .slice none 0 0 ∧ x.1 = .nil) ∨ ∃ a len cap elems rest, c = .slice (some a) len cap ∧ lenOk len cap ∧ x.1 = .slice elems rest ∧ elems.length = len ∧
      ∀ i (h1 : i < elems.length), ∃ cs y, DataW.trod enc Tryz.prog w 0 sp true n e cs = some y ∧ elems[i] = y.1 ∧ cs.length = sz ∧ ∀ j (h2 : j < cs.length), w.cell? ((a.add (i * sz)).add j) = some cs[j] := by
  cases c with
  | slice a len cap =>
    cases a with
    | none =>
      cases len with
      | zero =>
        cases cap with
        | zero => simp [DataW.trod, hu] at h; subst h; exact .inl ⟨rfl, rfl⟩
        | succ c => simp [DataW.trod, hu] at h
      | succ l => simp [DataW.trod, hu] at h
    | some a =>
      right
      simp only [DataW.trod, hu, hs] at h
      split at h
      · rename_i hc
        simp only [Option.bind_eq_some_iff, Option.map_eq_some_iff] at h
        obtain ⟨elems, hel, rest, _, rfl⟩ := h
        obtain ⟨h1, h2⟩ := mapM_get hel
        have hl : elems.length = len := by simpa using h1
        refine ⟨a, len, cap, elems.map (·.1), rest.map (·.1), rfl, ⟨hc.2.1, Nat.le_trans hc.2.2 (by simp [maxLen])⟩, rfl, by simpa using hl, fun i hi => ?_⟩
        have hi' : i < elems.length := by simpa using hi
        have h3 := h2 i (by simp; omega) hi'
        simp only [List.getElem_range, Option.bind_eq_some_iff] at h3
        obtain ⟨cs, hcs, hy⟩ := h3
        obtain ⟨h4, h5⟩ := cells_get hcs
        exact ⟨cs, elems[i], hy, by simp, h4, h5⟩
      · cases h
  | _ => simp [DataW.trod, hu] at h

theorem add_add (a : Addr) (i j : Nat) (ha : a.spot = none) : (a.add i).add j = ⟨a.block, a.off + i + j, none⟩ := by
  obtain ⟨b, o, s⟩ := a
  simp only at ha
  subst ha
  unfold Addr.add
  by_cases hi : i = 0 <;> by_cases hj : j = 0 <;> simp [hi, hj] <;> try omega
theorem spot_of {a : Addr} {v : Value} (h : w.cell? a = some v) : a.spot = none := by
  unfold World.cell? at h
  split at h
  · cases hs : a.spot with
    | none => rfl
    | some s => rw [hs] at h; simp at h
  · cases h

theorem trod_int {n : Nat} {c : Value} {x : DataW H × List MemPlace} (h : DataW.trod enc Tryz.prog w 0 sp true n 3 [c] = some x) : ∃ i, c = .int .i64 i := by
  cases n with
  | zero => simp [DataW.trod] at h
  | succ n =>
    cases c <;> simp [DataW.trod, Tryz.underlying3] at h
    exact ⟨_, by rw [h.1.1]⟩
theorem trod_str {n : Nat} {c : Value} {x : DataW H × List MemPlace} (h : DataW.trod enc Tryz.prog w 0 sp true n 9 [c] = some x) : ∃ s, c = .string s ∧ x.1 = .lit (.string s.data.toList) := by
  cases n with
  | zero => simp [DataW.trod] at h
  | succ n =>
    cases c <;> simp [DataW.trod, Tryz.underlying9] at h
    exact ⟨_, rfl, by rw [← h.2]⟩

/-- The rows of a slice of elements. -/
theorem row_of {α : Type} {T e sz : TypeId} {n : Nat} {c : Value} {x : DataW H × List MemPlace} (hu : Tryz.prog.underlying T = some (.slice e)) (hs : Tryz.prog.cellsOf e = sz) (hz : 0 < sz) (h : DataW.trod enc Tryz.prog w 0 sp true n T [c] = some x)
    (E : List Value → α → Prop) (G : DataW H → α → Prop) (hE : ∀ m cs y, m < n → DataW.trod enc Tryz.prog w 0 sp true m e cs = some y → cs.length = sz → ∃ t, E cs t ∧ G y.1 t) :
    ∃ (a : Option Addr) (cap : Nat) (ts : List α), c = .slice a ts.length cap ∧ lenOk ts.length cap ∧ (∃ f, Row w.cell? sz a ts.length f ∧ ∀ i (h : i < ts.length), E (f i) ts[i]) ∧
      ((ts = [] ∧ x.1 = .nil) ∨ ∃ elems rest, x.1 = .slice elems rest ∧ elems.length = ts.length ∧ ∀ i (h1 : i < elems.length) (h2 : i < ts.length), G elems[i] ts[i]) := by
  cases n with
  | zero => simp [DataW.trod] at h
  | succ n =>
    rcases trod_slice hu hs hz h with ⟨rfl, hx⟩ | ⟨a, len, cap, elems, rest, rfl, lk, hx, hl, hel⟩
    · exact ⟨none, 0, [], rfl, ⟨Nat.le_refl _, by decide⟩, ⟨fun _ => [], fun h => absurd h (Nat.lt_irrefl _), fun i h => absurd h (Nat.not_lt_zero _)⟩, .inl ⟨rfl, hx⟩⟩
    · have hall : ∀ i, i < len → ∃ (p : List Value × α), E p.1 p.2 ∧ p.1.length = sz ∧ (∀ j (h2 : j < p.1.length), w.cell? ((a.add (i * sz)).add j) = some p.1[j]) ∧ ∀ (h : i < elems.length), G elems[i] p.2 := fun i hi => by
        obtain ⟨cs, y, hy, he, hc, hcl⟩ := hel i (by omega)
        obtain ⟨t, h1, h2⟩ := hE n cs y (Nat.lt_succ_self _) hy hc
        exact ⟨(cs, t), h1, hc, hcl, fun h => by rw [he]; exact h2⟩
      obtain ⟨ps, hpl, hp⟩ : ∃ ps : List (List Value × α), ps.length = len ∧ ∀ i (h : i < ps.length), E ps[i].1 ps[i].2 ∧ ps[i].1.length = sz ∧ (∀ j (h2 : j < ps[i].1.length), w.cell? ((a.add (i * sz)).add j) = some ps[i].1[j]) ∧ ∀ (h : i < elems.length), G elems[i] ps[i].2 := by
        have := Classical.axiomOfChoice (fun (i : Fin len) => hall i.1 i.2)
        obtain ⟨f, hf⟩ := this
        refine ⟨List.ofFn f, by simp, fun i h => ?_⟩
        rw [List.getElem_ofFn]
        exact hf ⟨i, by simpa using h⟩
      refine ⟨some a, cap, ps.map (·.2), by simp [hpl], by simpa [hpl] using lk, ⟨fun i => (ps.map (·.1)).getD i [], ?_, fun i hi => ?_⟩, .inr ⟨elems, rest, hx, by simp [hpl, hl], fun i h1 h2 => ?_⟩⟩
      · intro hn
        have h0 : 0 < ps.length := by rw [List.length_map] at hn; exact hn
        have hc0 := (hp 0 h0).2.2.1 0 (by rw [(hp 0 h0).2.1]; exact hz)
        have hsp : a.spot = none := by
          have := spot_of hc0
          simpa [Addr.add] using this
        refine ⟨a.block, a.off, by obtain ⟨b, o, s⟩ := a; simp only at hsp; subst hsp; rfl, fun i hi j u hu => ?_⟩
        have hi' : i < ps.length := by simpa using hi
        have e1 : (ps.map (·.1)).getD i [] = ps[i].1 := by
          rw [List.getD_eq_getElem?_getD, List.getElem?_eq_getElem (by simpa using hi')]; simp
        change ((ps.map (·.1)).getD i [])[j]? = some u at hu
        rw [e1] at hu
        have hj : j < ps[i].1.length := (List.getElem?_eq_some_iff.1 hu).1
        have := (hp i hi').2.2.1 j hj
        rw [add_add _ _ _ hsp] at this
        rw [this, ← hu, List.getElem?_eq_getElem hj]
      · have hi' : i < ps.length := by simpa using hi
        have e1 : (ps.map (·.1)).getD i [] = ps[i].1 := by
          rw [List.getD_eq_getElem?_getD, List.getElem?_eq_getElem (by simpa using hi')]; simp
        show E ((ps.map (·.1)).getD i []) _
        rw [e1]
        simpa using (hp i hi').1
      · have hi' : i < ps.length := by simpa using h2
        simpa using (hp i hi').2.2.2 h1

theorem all_left {l l' : List Nat} (h : (l ++ l').all (· ≤ reachBytes) = true) : l.all (· ≤ reachBytes) = true ∧ l'.all (· ≤ reachBytes) = true := by
  rw [List.all_append, Bool.and_eq_true] at h; exact h
theorem weightsAll_mem {P : Program} {e : TypeId} : ∀ {l : List (DataW H)}, (DataW.weightsAll P e l).all (· ≤ reachBytes) = true → ∀ d ∈ l, (DataW.weights P e d).all (· ≤ reachBytes) = true
  | [], _, d, h => by cases h
  | a :: l, h, d, hd => by
    rw [DataW.weightsAll] at h
    obtain ⟨h1, h2⟩ := all_left h
    rcases List.mem_cons.1 hd with rfl | hd
    · exact h1
    · exact weightsAll_mem h2 d hd
theorem weights_slice {T e : TypeId} {elems rest : List (DataW H)} (hu : Tryz.prog.underlying T = some (.slice e)) (h : (DataW.weights Tryz.prog T (.slice elems rest)).all (· ≤ reachBytes) = true) :
    (elems.length + rest.length) * Tryz.prog.bytesOf e ≤ reachBytes ∧ (DataW.weightsAll Tryz.prog e elems).all (· ≤ reachBytes) = true := by
  rw [DataW.weights, hu] at h
  simp only [List.all_cons, Bool.and_eq_true, decide_eq_true_eq] at h
  exact ⟨h.1, (all_left h.2).1⟩

theorem rowS_data {n : Nat} {c : Value} {x : DataW H × List MemPlace} (h : DataW.trod enc Tryz.prog w 0 sp true n 26 [c] = some x) :
    ∃ a cap ks, c = .slice a ks.length cap ∧ lenOk ks.length cap ∧ RowS w.cell? a ks ∧ ((DataW.weights Tryz.prog 26 x.1).all (· ≤ reachBytes) = true → ks.length ≤ 140737488351232 ∧ ∀ k ∈ ks, k.size ≤ 140737488351232) := by
  obtain ⟨a, cap, ks, rfl, lk, ⟨f, hr, hf⟩, hd⟩ := row_of (α := ByteArray) (sz := 1) Tryz.underlying26 (by kernel_rfl) (by decide) h (fun cs k => cs = [.string k]) (fun d k => d = .lit (.string k.data.toList)) (fun m cs y hm hy hl => by
    match cs, hl with
    | [c], _ =>
      obtain ⟨s, rfl, hx⟩ := trod_str hy
      exact ⟨s, rfl, hx⟩)
  refine ⟨a, cap, ks, rfl, lk, ?_, fun hw => ?_⟩
  · intro hn
    obtain ⟨b, off, e, hc⟩ := hr hn
    refine ⟨b, off, e, fun i hi j u hu => hc i hi j u ?_⟩
    rw [hf i hi]
    have e1 : ks.getD i default = ks[i] := by rw [List.getD_eq_getElem?_getD, List.getElem?_eq_getElem hi]; rfl
    change (strCells (ks.getD i default))[j]? = some u at hu
    rw [e1] at hu
    exact hu
  · rcases hd with ⟨rfl, _⟩ | ⟨elems, rest, hx, hl, hg⟩
    · exact ⟨by simp, by simp⟩
    · rw [hx] at hw
      obtain ⟨h1, h2⟩ := weights_slice Tryz.underlying26 hw
      have hb : Tryz.prog.bytesOf 9 = 16 := by kernel_rfl
      rw [hb] at h1
      unfold reachBytes at h1
      refine ⟨by omega, fun k hk => ?_⟩
      obtain ⟨i, hi, rfl⟩ := List.getElem_of_mem hk
      have h3 := weightsAll_mem h2 elems[i] (List.getElem_mem _)
      rw [hg i (by omega) hi, DataW.weights] at h3
      simp only [List.all_cons, List.all_nil, Bool.and_true, decide_eq_true_eq] at h3
      unfold reachBytes at h3
      rw [Array.length_toList] at h3
      exact h3

/-- What is read of a value. -/
def ValD (w : World) (cs : List Value) (d : DataW H) (t : Vl) : Prop := (∃ kd tx ak nk ck a1 n1 c1, cs = vlCells kd tx ak nk ck a1 n1 c1) ∧ MV w.cell? cs t ∧ ((DataW.weights Tryz.prog 29 d).all (· ≤ reachBytes) = true → BdV t)

set_option maxRecDepth 100000 in
theorem trod29 {n : Nat} {cs : List Value} {y : DataW H × List MemPlace} (h : DataW.trod enc Tryz.prog w 0 sp true (n + 1) 29 cs = some y) : ∃ c0 c1 c2 c3 x0 x1 x2 x3, cs = [c0, c1, c2, c3] ∧
    DataW.trod enc Tryz.prog w 0 sp true n 3 [c0] = some x0 ∧ DataW.trod enc Tryz.prog w 0 sp true n 9 [c1] = some x1 ∧ DataW.trod enc Tryz.prog w 0 sp true n 26 [c2] = some x2 ∧ DataW.trod enc Tryz.prog w 0 sp true n 27 [c3] = some x3 ∧ y.1 = .agg [x0.1, x1.1, x2.1, x3.1] := by
  have h29 : Tryz.prog.cellsOf 29 = 4 := by kernel_rfl
  have h3 : Tryz.prog.cellsOf 3 = 1 := by kernel_rfl
  have h9 : Tryz.prog.cellsOf 9 = 1 := by kernel_rfl
  have h26 : Tryz.prog.cellsOf 26 = 1 := by kernel_rfl
  have h27 : Tryz.prog.cellsOf 27 = 1 := by kernel_rfl
  simp only [DataW.trod, Tryz.underlying29, h29] at h
  split at h
  · rename_i hl
    match cs, hl with
    | [c0, c1, c2, c3], _ =>
      simp only [List.mapM_cons, List.mapM_nil, h3, h9, h26, h27, Option.bind_eq_bind, Option.pure_def, Option.map_eq_some_iff, Option.bind_eq_some_iff, Option.some.injEq] at h
      obtain ⟨xs, ⟨x0, hx0, xs1, ⟨x1, hx1, xs2, ⟨x2, hx2, xs3, ⟨x3, hx3, xs4, rfl, rfl⟩, rfl⟩, rfl⟩, rfl⟩, rfl⟩ := h
      exact ⟨c0, c1, c2, c3, x0, x1, x2, x3, rfl, hx0, hx1, hx2, hx3, rfl⟩
  · cases h

set_option maxRecDepth 100000 in
theorem val_data (n : Nat) : ∀ (cs : List Value) (y : DataW H × List MemPlace), DataW.trod enc Tryz.prog w 0 sp true n 29 cs = some y → ∃ t, ValD w cs y.1 t := by
  induction n using Nat.strongRecOn with
  | ind n ih =>
    intro cs y h
    cases n with
    | zero => simp [DataW.trod] at h
    | succ n =>
      obtain ⟨c0, c1, c2, c3, x0, x1, x2, x3, rfl, h0, h1, h2, h3, hy⟩ := trod29 h
      obtain ⟨kd, rfl⟩ := trod_int h0
      obtain ⟨tx, rfl, hx1⟩ := trod_str h1
      obtain ⟨ak, ck, ks, rfl, lk, rk, hks⟩ := rowS_data h2
      obtain ⟨a1, c1, kids, rfl, l1, ⟨f, hr, hf⟩, hd⟩ := row_of (α := Vl) (sz := 4) Tryz.underlying27 (by kernel_rfl) (by decide) h3 (fun cs t => MV w.cell? cs t) (fun d t => (DataW.weights Tryz.prog 29 d).all (· ≤ reachBytes) = true → BdV t) (fun m cs y hm hy hl => by
        obtain ⟨t, _, g2, g3⟩ := ih m (by omega) cs y hy
        exact ⟨t, g2, g3⟩)
      refine ⟨.mk kd tx ks kids, ⟨_, _, _, _, _, _, _, _, rfl⟩, MV.close lk l1 rk ⟨f, hr, hf⟩, fun hw => ?_⟩
      rw [hy, DataW.weights, Tryz.underlying29] at hw
      simp only [List.map_cons, List.map_nil, DataW.weightsEach, List.append_nil] at hw
      obtain ⟨_, hw⟩ := all_left hw
      obtain ⟨hw1, hw⟩ := all_left hw
      obtain ⟨hw2, hw3⟩ := all_left hw
      rw [hx1, DataW.weights] at hw1
      simp only [List.all_cons, List.all_nil, Bool.and_true, decide_eq_true_eq] at hw1
      unfold reachBytes at hw1
      rw [Array.length_toList] at hw1
      obtain ⟨hk1, hk2⟩ := hks hw2
      rcases hd with ⟨rfl, _⟩ | ⟨elems, rest, hx, hl, hg⟩
      · exact .mk hw1 hk1 hk2 (by simp) (by simp)
      · rw [hx] at hw3
        obtain ⟨g1, g2⟩ := weights_slice Tryz.underlying27 hw3
        have hb : Tryz.prog.bytesOf 29 = 72 := by kernel_rfl
        rw [hb] at g1
        unfold reachBytes at g1
        refine .mk hw1 hk1 hk2 (by omega) (fun k hk => ?_)
        obtain ⟨i, hi, rfl⟩ := List.getElem_of_mem hk
        exact hg i (by omega) hi (weightsAll_mem g2 elems[i] (List.getElem_mem _))
end Go.Proofs.YtaglgokeejjagaaGreat
/- How the arguments of a law lie in memory: types. -/
namespace Go.Proofs.YtaglgokeejjagaaGreat
set_option linter.unusedVariables false
set_option linter.unusedSimpArgs false
open Go.RowKit Go.Sort
variable {H : Type} {enc : TypeId × Value → H} {w : World} {sp : Nat → Bool}

theorem lit_weights {T : TypeId} {s : ByteArray} {d : DataW H} (hx : d = .lit (.string s.data.toList)) (h : (DataW.weights Tryz.prog T d).all (· ≤ reachBytes) = true) : s.size ≤ 140737488351232 := by
  rw [hx, DataW.weights] at h
  simp only [List.all_cons, List.all_nil, Bool.and_true, decide_eq_true_eq] at h
  unfold reachBytes at h
  rw [Array.length_toList] at h
  exact h

set_option maxRecDepth 100000 in
theorem trod54 {n : Nat} {cs : List Value} {y : DataW H × List MemPlace} (h : DataW.trod enc Tryz.prog w 0 sp true (n + 1) 54 cs = some y) : ∃ c0 c1 x0 x1, cs = [c0, c1] ∧
    DataW.trod enc Tryz.prog w 0 sp true n 3 [c0] = some x0 ∧ DataW.trod enc Tryz.prog w 0 sp true n 9 [c1] = some x1 ∧ y.1 = .agg [x0.1, x1.1] := by
  have h54 : Tryz.prog.cellsOf 54 = 2 := by kernel_rfl
  have h3 : Tryz.prog.cellsOf 3 = 1 := by kernel_rfl
  have h9 : Tryz.prog.cellsOf 9 = 1 := by kernel_rfl
  simp only [DataW.trod, Tryz.underlying54, h54] at h
  split at h
  · rename_i hl
    match cs, hl with
    | [c0, c1], _ =>
      simp only [List.mapM_cons, List.mapM_nil, h3, h9, Option.bind_eq_bind, Option.pure_def, Option.map_eq_some_iff, Option.bind_eq_some_iff, Option.some.injEq] at h
      obtain ⟨xs, ⟨x0, hx0, xs1, ⟨x1, hx1, xs2, rfl, rfl⟩, rfl⟩, rfl⟩ := h
      exact ⟨c0, c1, x0, x1, rfl, hx0, hx1, rfl⟩
  · cases h

set_option maxRecDepth 100000 in
theorem rowK_data {n : Nat} {c : Value} {x : DataW H × List MemPlace} (h : DataW.trod enc Tryz.prog w 0 sp true n 22 [c] = some x) :
    ∃ a cap ks, c = .slice a ks.length cap ∧ lenOk ks.length cap ∧ RowK w.cell? a ks ∧ ((DataW.weights Tryz.prog 22 x.1).all (· ≤ reachBytes) = true → ks.length ≤ 140737488351232 ∧ ∀ k ∈ ks, k.text.size ≤ 140737488351232) := by
  obtain ⟨a, cap, ks, rfl, lk, ⟨f, hr, hf⟩, hd⟩ := row_of (α := Ky) (sz := 2) Tryz.underlying22 (by kernel_rfl) (by decide) h (fun cs k => cs = kyCells k) (fun d k => (DataW.weights Tryz.prog 54 d).all (· ≤ reachBytes) = true → k.text.size ≤ 140737488351232) (fun m cs y hm hy hl => by
    cases m with
    | zero => simp [DataW.trod] at hy
    | succ m =>
      obtain ⟨c0, c1, x0, x1, rfl, h0, h1, hy2⟩ := trod54 hy
      obtain ⟨kd, rfl⟩ := trod_int h0
      obtain ⟨tx, rfl, hx1⟩ := trod_str h1
      refine ⟨⟨kd, tx⟩, rfl, fun hw => ?_⟩
      rw [hy2, DataW.weights, Tryz.underlying54] at hw
      simp only [List.map_cons, List.map_nil, DataW.weightsEach, List.append_nil] at hw
      obtain ⟨_, hw⟩ := all_left hw
      exact lit_weights hx1 hw)
  refine ⟨a, cap, ks, rfl, lk, ?_, fun hw => ?_⟩
  · intro hn
    obtain ⟨b, off, e, hc⟩ := hr hn
    refine ⟨b, off, e, fun i hi j u hu => hc i hi j u ?_⟩
    rw [hf i hi]
    have e1 : ks.getD i default = ks[i] := by rw [List.getD_eq_getElem?_getD, List.getElem?_eq_getElem hi]; rfl
    change (kyCells (ks.getD i default))[j]? = some u at hu
    rw [e1] at hu
    exact hu
  · rcases hd with ⟨rfl, _⟩ | ⟨elems, rest, hx, hl, hg⟩
    · exact ⟨by simp, by simp⟩
    · rw [hx] at hw
      obtain ⟨h1, h2⟩ := weights_slice Tryz.underlying22 hw
      have hb : Tryz.prog.bytesOf 54 = 24 := by kernel_rfl
      rw [hb] at h1
      unfold reachBytes at h1
      refine ⟨by omega, fun k hk => ?_⟩
      obtain ⟨i, hi, rfl⟩ := List.getElem_of_mem hk
      exact hg i (by omega) hi (weightsAll_mem h2 elems[i] (List.getElem_mem _))

/-- What is read of a type. -/
def TypD (w : World) (cs : List Value) (d : DataW H) (t : IT) : Prop := (∃ kd nm tx ak nk ck a1 n1 c1 a2 n2 c2, cs = itCells kd nm tx ak nk ck a1 n1 c1 a2 n2 c2) ∧ MIT w.cell? cs t ∧ ((DataW.weights Tryz.prog 25 d).all (· ≤ reachBytes) = true → BdI t)

set_option maxRecDepth 100000 in
theorem trod25 {n : Nat} {cs : List Value} {y : DataW H × List MemPlace} (h : DataW.trod enc Tryz.prog w 0 sp true (n + 1) 25 cs = some y) : ∃ c0 c1 c2 c3 c4 c5 x0 x1 x2 x3 x4 x5, cs = [c0, c1, c2, c3, c4, c5] ∧
    DataW.trod enc Tryz.prog w 0 sp true n 3 [c0] = some x0 ∧ DataW.trod enc Tryz.prog w 0 sp true n 9 [c1] = some x1 ∧ DataW.trod enc Tryz.prog w 0 sp true n 9 [c2] = some x2 ∧ DataW.trod enc Tryz.prog w 0 sp true n 22 [c3] = some x3 ∧
    DataW.trod enc Tryz.prog w 0 sp true n 23 [c4] = some x4 ∧ DataW.trod enc Tryz.prog w 0 sp true n 23 [c5] = some x5 ∧ y.1 = .agg [x0.1, x1.1, x2.1, x3.1, x4.1, x5.1] := by
  have h25 : Tryz.prog.cellsOf 25 = 6 := by kernel_rfl
  have h3 : Tryz.prog.cellsOf 3 = 1 := by kernel_rfl
  have h9 : Tryz.prog.cellsOf 9 = 1 := by kernel_rfl
  have h22 : Tryz.prog.cellsOf 22 = 1 := by kernel_rfl
  have h23 : Tryz.prog.cellsOf 23 = 1 := by kernel_rfl
  simp only [DataW.trod, Tryz.underlying25, h25] at h
  split at h
  · rename_i hl
    match cs, hl with
    | [c0, c1, c2, c3, c4, c5], _ =>
      simp only [List.mapM_cons, List.mapM_nil, h3, h9, h22, h23, Option.bind_eq_bind, Option.pure_def, Option.map_eq_some_iff, Option.bind_eq_some_iff, Option.some.injEq] at h
      obtain ⟨xs, ⟨x0, hx0, xs1, ⟨x1, hx1, xs2, ⟨x2, hx2, xs3, ⟨x3, hx3, xs4, ⟨x4, hx4, xs5, ⟨x5, hx5, xs6, rfl, rfl⟩, rfl⟩, rfl⟩, rfl⟩, rfl⟩, rfl⟩, rfl⟩ := h
      exact ⟨c0, c1, c2, c3, c4, c5, x0, x1, x2, x3, x4, x5, rfl, hx0, hx1, hx2, hx3, hx4, hx5, rfl⟩
  · cases h

set_option maxRecDepth 100000 in
theorem typ_data (n : Nat) : ∀ (cs : List Value) (y : DataW H × List MemPlace), DataW.trod enc Tryz.prog w 0 sp true n 25 cs = some y → ∃ t, TypD w cs y.1 t := by
  induction n using Nat.strongRecOn with
  | ind n ih =>
    intro cs y h
    cases n with
    | zero => simp [DataW.trod] at h
    | succ n =>
      obtain ⟨c0, c1, c2, c3, c4, c5, x0, x1, x2, x3, x4, x5, rfl, h0, h1, h2, h3, h4, h5, hy⟩ := trod25 h
      obtain ⟨kd, rfl⟩ := trod_int h0
      obtain ⟨nm, rfl, hx1⟩ := trod_str h1
      obtain ⟨tx, rfl, hx2⟩ := trod_str h2
      obtain ⟨ak, ck, ks, rfl, lk, rk, hks⟩ := rowK_data h3
      have hE : ∀ m (cs : List Value) (y : DataW H × List MemPlace), m < n → DataW.trod enc Tryz.prog w 0 sp true m 25 cs = some y → cs.length = 6 → ∃ t, MIT w.cell? cs t ∧ ((DataW.weights Tryz.prog 25 y.1).all (· ≤ reachBytes) = true → BdI t) := fun m cs y hm hy hl => by
        obtain ⟨t, _, g2, g3⟩ := ih m (by omega) cs y hy
        exact ⟨t, g2, g3⟩
      obtain ⟨a1, c1, kids, rfl, l1, ⟨f, hr, hf⟩, hd⟩ := row_of (α := IT) (sz := 6) Tryz.underlying23 (by kernel_rfl) (by decide) h4 (fun cs t => MIT w.cell? cs t) (fun d t => (DataW.weights Tryz.prog 25 d).all (· ≤ reachBytes) = true → BdI t) hE
      obtain ⟨a2, c2, more, rfl, l2, ⟨f2, hr2, hf2⟩, hd2⟩ := row_of (α := IT) (sz := 6) Tryz.underlying23 (by kernel_rfl) (by decide) h5 (fun cs t => MIT w.cell? cs t) (fun d t => (DataW.weights Tryz.prog 25 d).all (· ≤ reachBytes) = true → BdI t) hE
      refine ⟨.mk kd nm tx ks kids more, ⟨_, _, _, _, _, _, _, _, _, _, _, _, rfl⟩, MIT.close lk l1 l2 rk ⟨f, hr, hf⟩ ⟨f2, hr2, hf2⟩, fun hw => ?_⟩
      rw [hy, DataW.weights, Tryz.underlying25] at hw
      simp only [List.map_cons, List.map_nil, DataW.weightsEach, List.append_nil] at hw
      obtain ⟨_, hw⟩ := all_left hw
      obtain ⟨hw1, hw⟩ := all_left hw
      obtain ⟨hw2, hw⟩ := all_left hw
      obtain ⟨hw3, hw⟩ := all_left hw
      obtain ⟨hw4, hw5⟩ := all_left hw
      obtain ⟨hk1, hk2⟩ := hks hw3
      have hb : Tryz.prog.bytesOf 25 = 112 := by kernel_rfl
      have key : ∀ (ts : List IT) (x : DataW H × List MemPlace), ((ts = [] ∧ x.1 = .nil) ∨ ∃ elems rest, x.1 = .slice elems rest ∧ elems.length = ts.length ∧ ∀ i (h1 : i < elems.length) (h2 : i < ts.length), (DataW.weights Tryz.prog 25 elems[i]).all (· ≤ reachBytes) = true → BdI ts[i]) →
          (DataW.weights Tryz.prog 23 x.1).all (· ≤ reachBytes) = true → ts.length ≤ 140737488351232 ∧ ∀ k ∈ ts, BdI k := fun ts x hd hw => by
        rcases hd with ⟨rfl, _⟩ | ⟨elems, rest, hx, hl, hg⟩
        · exact ⟨by simp, by simp⟩
        · rw [hx] at hw
          obtain ⟨g1, g2⟩ := weights_slice Tryz.underlying23 hw
          rw [hb] at g1
          unfold reachBytes at g1
          refine ⟨by omega, fun k hk => ?_⟩
          obtain ⟨i, hi, rfl⟩ := List.getElem_of_mem hk
          exact hg i (by omega) hi (weightsAll_mem g2 elems[i] (List.getElem_mem _))
      obtain ⟨p1, p2⟩ := key kids _ hd hw4
      obtain ⟨q1, q2⟩ := key more _ hd2 hw5
      exact .mk (lit_weights hx1 hw1) (lit_weights hx2 hw2) hk1 hk2 p1 p2 q1 q2
end Go.Proofs.YtaglgokeejjagaaGreat
