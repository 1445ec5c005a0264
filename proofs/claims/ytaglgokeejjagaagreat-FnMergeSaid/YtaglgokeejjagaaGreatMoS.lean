/- What 'mergeObjects' is asked. -/
import Derived.Test.YtaglgokeejjagaaGreatOrC
import Derived.Test.YtaglgokeejjagaaGreatMapB
import Derived.Test.YtaglgokeejjagaaGreatMoP
import Derived.Test.YtaglgokeejjagaaGreatWorks
/- Object types in memory; maps of types while two object types are merged. -/
namespace Go.Proofs.YtaglgokeejjagaaGreat
set_option linter.unusedVariables false
set_option linter.unusedSimpArgs false
open Go.RowKit Go.Sort Go.Maps

/-- The static properties of an object type in memory. -/
def ObM (m : Mem) (b : Nat) (P : List Pr) (a : Option Addr) (c : Nat) (ps : List Nat) (xs : List Value) : Prop :=
  m ⟨b, 0, none⟩ = some (.slice a P.length c) ∧ lenOk P.length c ∧ ps.length = P.length ∧ xs.length = P.length ∧ RowX m a (ps.map fun p => .pointer (some ⟨p, 0, none⟩)) ∧
  (∀ i (h : i < ps.length) (h1 : i < P.length), m ⟨ps[i], 0, none⟩ = some P[i].1.v) ∧ (∀ i (h : i < ps.length) (h1 : i < xs.length), m ⟨ps[i], 1, none⟩ = some xs[i]) ∧ (∀ i (h1 : i < xs.length) (h2 : i < P.length), RT m xs[i] P[i].2) ∧ (P.map (·.1)).Pairwise AK.lt
/-- The dynamic ones. -/
def DyM (m : Mem) (dv : Value) (more : List ST) : Prop := (dv = .pointer none ∧ more = []) ∨ ∃ q x1 x2 s1 s2, dv = .pointer (some ⟨q, 0, none⟩) ∧ more = [s1, s2] ∧ m ⟨q, 0, none⟩ = some x1 ∧ m ⟨q, 1, none⟩ = some x2 ∧ RT m x1 s1 ∧ RT m x2 s2
theorem DyM.mono {m m' : Mem} {dv : Value} {more : List ST} (h : DyM m dv more) (hm : MLe m m') : DyM m' dv more := by
  rcases h with h | ⟨q, x1, x2, s1, s2, h1, h2, h3, h4, h5, h6⟩
  · exact .inl h
  · exact .inr ⟨q, x1, x2, s1, s2, h1, h2, hm _ _ h3, hm _ _ h4, h5.mono hm, h6.mono hm⟩
theorem DyM.ptr {m : Mem} {dv : Value} {more : List ST} (h : DyM m dv more) : ∃ d, dv = .pointer d := by
  rcases h with ⟨h, _⟩ | ⟨q, _, _, _, _, h, _⟩ <;> exact ⟨_, h⟩
theorem obM_of {m : Mem} {y : Value} {s : ST} (h : RT m (.iface 80 y) s) : ∃ b P a c ps xs dv more, y = .pointer (some ⟨b, 0, none⟩) ∧ s = .mk 6 (P.map fun x => kyOf x.1) (P.map (·.2)) more ∧ ObM m b P a c ps xs ∧ m ⟨b, 1, none⟩ = some dv ∧ DyM m dv more := by
  cases h with
  | @obj b c a ps xs ks kids dv ds more h0 h1 lk hp hx hk r e0 e1 e so hd e2 =>
    have hz := zip_fst hk
    have hzs := zip_snd hk
    have hl : (ks.zip kids).length = kids.length := by rw [List.length_zip]; omega
    refine ⟨b, ks.zip kids, a, c, ps, xs, dv, more, rfl, obj_zip hk, ⟨by rw [hl]; exact h0, by rw [hl]; exact lk, by rw [hl]; exact hp, by rw [hl]; exact hx, r, fun i h h1 => ?_, e1, fun i h1 h2 => ?_, by rw [hz]; exact so⟩, h1, ?_⟩
    · rw [List.getElem_zip]; exact e0 i h (by omega)
    · rw [List.getElem_zip]; exact e i h1 (by omega)
    · rcases hd with ⟨h1, h2⟩ | ⟨q, h1, h2, h3, h4⟩
      · exact .inl ⟨h1, h2⟩
      · match ds, more, h2, h3, h4, e2 with
        | [x1, x2], [s1, s2], _, _, h4, e2 => exact .inr ⟨q, x1, x2, s1, s2, h1, rfl, h4 0 (by simp), h4 1 (by simp), e2 0 (by simp) (by simp), e2 1 (by simp) (by simp)⟩
theorem ObM.nodup {m : Mem} {b : Nat} {P : List Pr} {a : Option Addr} {c : Nat} {ps : List Nat} {xs : List Value} (h : ObM m b P a c ps xs) : (P.map (·.1)).Nodup := AK.nodup h.2.2.2.2.2.2.2.2
/-- Nothing but the new map's block has turned. -/
theorem mle_map {m : Mem} {W wr : World} {o : Obj} (hm : MLe m (ucell W)) (hg : (W.alloc o).grownBy wr (some W.heap.size)) : MLe m (ucell wr) := fun a x h => by
  have h1 := hm a x h
  have h2 := ucell_lt h1
  rw [ucell_of (w := W.alloc o) (w' := wr) (hg.block a.block (by simp; omega) (by simp; omega)), ucell_of (w := W) (w' := W.alloc o) (Below.heap_alloc W o _ h2)]
  exact h1
theorem fr_alm {m : Mem} {B : Nat} {W wr : World} {o : Obj} (hg : (W.alloc o).grownBy wr (some W.heap.size)) : MLe (fr m B W none) (fr m B wr none) := fr_step (fun k _ h2 _ => by
    rw [hg.block k (by simp; omega) (by simp; omega), Below.heap_alloc W o _ h2]) (.inl rfl)
theorem fr_mp {m : Mem} {B b : Nat} {w w' : World} {es : Array MapEntry} {cl : Nat} (hb : w.heap[b]? = some (.map es cl)) (hg : w.grownBy w' (some b)) : MLe (fr m B w none) (fr m B w' none) := by
  intro a x h
  unfold fr at h ⊢
  split at h
  · rename_i h1
    rw [if_neg (by simp)] at h
    rw [if_pos h1, if_neg (by simp)]
    have hne : a.block ≠ b := fun e => by unfold ucell at h; rw [e, hb] at h; cases h
    rw [ucell_of (hg.block a.block (ucell_lt h) (by simpa using hne))]
    exact h
  · rename_i h1; rw [if_neg h1]; exact h
theorem mle_mp {m : Mem} {b : Nat} {w w' : World} {es : Array MapEntry} {cl : Nat} (hm : MLe m (ucell w)) (hb : w.heap[b]? = some (.map es cl)) (hg : w.grownBy w' (some b)) : MLe m (ucell w') := fun a x h => by
  have h1 := hm a x h
  have hne : a.block ≠ b := fun e => by unfold ucell at h1; rw [e, hb] at h1; cases h1
  rw [ucell_of (hg.block a.block (ucell_lt h1) (by simpa using hne))]
  exact h1
theorem MapA.bl {w w' : World} {b : Nat} {L : List (AK × Value)} (h : MapA w b L) (hb : Below w.heap.size w w') : MapA w' b L := bl_heap hb h
theorem MapA.lt {w : World} {b : Nat} {L : List (AK × Value)} (h : MapA w b L) : b < w.heap.size := (Array.getElem?_eq_some_iff.1 h).1
theorem set_gr (w : World) (b : Nat) (o : Obj) : w.grownBy (ChangeMaps.setBlock w b o) (some b) := ⟨rfl, rfl, rfl, by simp [ChangeMaps.setBlock], fun i _ hi => by
  unfold ChangeMaps.setBlock
  simp only
  rw [Array.getElem?_setIfInBounds_ne]
  exact fun e => hi (by rw [e])⟩
theorem set_at {w : World} {b : Nat} {o o' : Obj} (h : w.heap[b]? = some o) : (ChangeMaps.setBlock w b o').heap[b]? = some o' := (MapKept.heap_set h).1
section
variable {w : World} {ops : Array Oper} {o : Oper} {a : Act} {K : Act → World → Prop} {Q : Exit → Act → World → Prop} {F : Prop}
theorem step_upd_no (hgd : o.guard = none) (mo x v : Operand) (hop : o.op = Op.mapUpdate 182 mo x v) (b : Nat) (L : List (AK × Value)) (k : AK) (u : Value) (hm : a.eval mo = .map (some b)) (hx : a.eval x = k.v) (hv : a.eval v = u) (h : MapA w b L) (hno : ∀ p ∈ L, p.1 ≠ k)
    (hK : ∀ w', MapA w' b (L ++ [(k, u)]) → w.grownBy w' (some b) → w'.heap.size = w.heap.size → K (a.put o.dst undef) w') : if Region.wanted o (yielded ops a.tmps) = true then Oper.wp Tryz.prog o a w K Q else F := by
  have hw : Region.wanted o (yielded ops a.tmps) = true := by simp [Region.wanted, hgd]
  rw [if_pos hw]
  have hrun := upd_no u h hno
  unfold Oper.wp
  simp [execOp, hop, hm, hx, hv, hrun, Result.andThen]
  exact hK _ (by unfold MapA; rw [set_at h]; simp) (set_gr _ _ _) (by simp [ChangeMaps.setBlock])
theorem step_upd_yes (hgd : o.guard = none) (mo x v : Operand) (hop : o.op = Op.mapUpdate 182 mo x v) (b : Nat) (L : List (AK × Value)) (k : AK) (u : Value) (hm : a.eval mo = .map (some b)) (hx : a.eval x = k.v) (hv : a.eval v = u) (h : MapA w b L) (j : Nat) (hj : j < L.length) (e : L[j].1 = k) (hn : ∀ j' (h : j' < j), (L[j']'(Nat.lt_trans h hj)).1 ≠ k)
    (hK : ∀ w', MapA w' b (L.set j (k, u)) → w.grownBy w' (some b) → w'.heap.size = w.heap.size → K (a.put o.dst undef) w') : if Region.wanted o (yielded ops a.tmps) = true then Oper.wp Tryz.prog o a w K Q else F := by
  have hw : Region.wanted o (yielded ops a.tmps) = true := by simp [Region.wanted, hgd]
  rw [if_pos hw]
  have hrun := upd_yes u h hj e hn
  unfold Oper.wp
  simp [execOp, hop, hm, hx, hv, hrun, Result.andThen]
  exact hK _ (by unfold MapA; rw [set_at h]; simp) (set_gr _ _ _) (by simp [ChangeMaps.setBlock])
end
/-- The map and the types that lie in it, while the second type's properties are taken. -/
def Mo2 (m : Mem) (w W : World) (mb : Nat) (pa qb : List Pr) (L : List (AK × Value)) (T : List Pr) (wr : World) : Prop :=
  L.length = T.length ∧ (∀ i (h1 : i < L.length) (h2 : i < T.length), L[i].1 = T[i].1) ∧ (∀ i (h1 : i < L.length) (h2 : i < T.length), RT (fr m w.heap.size wr none) L[i].2 T[i].2) ∧ MoI pa qb T ∧ MapA wr mb L ∧ Below w.heap.size w wr ∧ w.heap.size ≤ mb ∧ MLe (fr m w.heap.size W none) (fr m w.heap.size wr none) ∧ MLe m (ucell wr)
theorem mo2_new {m : Mem} {w W wr w6 : World} {mb : Nat} {pa qb : List Pr} {L : List (AK × Value)} {T : List Pr} {q : Pr} {u : Value} (h : Mo2 m w W mb pa qb L T wr) (hq : ∀ p ∈ L, p.1 ≠ q.1) (hu : RT (fr m w.heap.size wr none) u q.2) (hM : MapA w6 mb (L ++ [(q.1, u)])) (hg : wr.grownBy w6 (some mb)) : Mo2 m w W mb pa (qb ++ [q]) (L ++ [(q.1, u)]) (T ++ [q]) w6 := by
  obtain ⟨h1, h2, h3, h4, h5, h6, h7, h8, h9⟩ := h
  have hf := fr_mp (m := m) (B := w.heap.size) h5 hg
  refine ⟨by simp [h1], fun i g1 g2 => ?_, fun i g1 g2 => ?_, moI_new h4 (fun p hp => ?_), hM, h6.grown hg h6.size (fun k e => by cases e; exact h7), h7, h8.trans hf, mle_mp h9 h5 hg⟩
  · by_cases hi : i < L.length
    · rw [List.getElem_append_left hi, List.getElem_append_left (by omega)]; exact h2 i hi (by omega)
    · obtain rfl : i = L.length := by simp at g1; omega
      simp [h1]
  · by_cases hi : i < L.length
    · rw [List.getElem_append_left hi, List.getElem_append_left (by omega)]; exact (h3 i hi (by omega)).mono hf
    · obtain rfl : i = L.length := by simp at g1; omega
      simp [h1]; exact hu.mono hf
  · obtain ⟨i, hi, rfl⟩ := List.getElem_of_mem hp
    rw [← h2 i (by omega) hi]
    exact hq _ (List.getElem_mem _)
theorem mo2_old {m : Mem} {w W wr w5 w6 : World} {mb : Nat} {pa qb : List Pr} {L : List (AK × Value)} {T : List Pr} {q : Pr} {u : Value} {r : ST} {j : Nat} (h : Mo2 m w W mb pa qb L T wr) (hb5 : Below wr.heap.size wr w5) (hqb : ∀ q' ∈ qb, q'.1 ≠ q.1) (hj : j < L.length) (hj2 : j < T.length) (e : L[j].1 = q.1) (hu : RT (fr m w.heap.size w5 none) u r) (hw : WS r ≤ WS T[j].2 + WS q.2 + 1)
    (hM : MapA w6 mb (L.set j (q.1, u))) (hg : w5.grownBy w6 (some mb)) : Mo2 m w W mb pa (qb ++ [q]) (L.set j (q.1, u)) (T.set j (q.1, r)) w6 := by
  obtain ⟨h1, h2, h3, h4, h5, h6, h7, h8, h9⟩ := h
  have h5' := h5.bl hb5
  have hf := (fr_bl (m := m) (B := w.heap.size) (r := none) hb5).trans (fr_mp h5' hg)
  refine ⟨by simp [h1], fun i g1 g2 => ?_, fun i g1 g2 => ?_, moI_old h4 hqb hj2 (by rw [← h2 j hj hj2]; exact e) hw, hM, (bl_trans h6 hb5).grown hg (Nat.le_trans h6.size hb5.size) (fun k e => by cases e; exact h7), h7, h8.trans hf, mle_mp (h9.trans (mleU hb5)) h5' hg⟩
  · rw [List.getElem_set, List.getElem_set]
    split
    · rfl
    · exact h2 i (by simpa using g1) (by simpa using g2)
  · simp only [List.getElem_set]
    split
    · exact hu.mono (fr_mp h5' hg)
    · exact (h3 i (by simpa using g1) (by simpa using g2)).mono hf
theorem mo2_start {m : Mem} {w W wr : World} {pa : List Pr} {b : Nat} {a : Option Addr} {c : Nat} {ps : List Nat} {xs : List Value} (ho : ObM m b pa a c ps xs) (hm : MLe m (ucell W)) (hb : Below w.heap.size w W) (hl : Lo m w.heap.size) (hM : MapA wr W.heap.size ((pa.map (·.1)).zip xs)) (hg : (W.alloc (.map #[] 0)).grownBy wr (some W.heap.size)) :
    Mo2 m w W W.heap.size pa [] ((pa.map (·.1)).zip xs) pa wr := by
  have hx := ho.2.2.2.1
  refine ⟨by simp [List.length_zip, hx], fun i h1 h2 => by simp, fun i h1 h2 => ?_, moI_start ho.nodup, hM, (bl_alloc hb _).grown hg (Nat.le_trans hb.size (by simp)) (fun k e => by cases e; exact hb.size), hb.size, fr_alm hg, mle_map hm hg⟩
  simp only [List.getElem_zip]
  exact (ho.2.2.2.2.2.2.2.1 i (by omega) h2).mono (fr_old hl)
/-- The property with a number. -/
def prT (T : List Pr) (j : Nat) : Pr := T.getD j (.none, .mk 0 [] [] [])
theorem prT_at {T : List Pr} {j : Nat} (h : j < T.length) : prT T j = T[j] := by unfold prT; rw [List.getD_eq_getElem?_getD, List.getElem?_eq_getElem h]; rfl
theorem prT_all (T : List Pr) : (List.range T.length).map (prT T) = T := by
  refine List.ext_getElem (by simp) fun i h1 h2 => ?_
  rw [List.getElem_map, List.getElem_range, prT_at h2]
end Go.Proofs.YtaglgokeejjagaaGreat
namespace Go.Proofs.YtaglgokeejjagaaGreat
set_option linter.unusedVariables false
set_option linter.unusedSimpArgs false
open Go.RowKit Go.Sort Go.Maps

def MoQ (m : Mem) (pa : List Pr) (ma : List ST) (pb : List Pr) (mb : List ST) (w : World) (e : Ending) (w' : World) : Prop := ∃ p r, MoR pa ma pb mb r ∧ e = .returned (.pointer p) ∧ RT (fr m w.heap.size w' none) (.iface 80 (.pointer p)) r ∧ Below w.heap.size w w'
def MoSt (s t r : ST) : Prop := ∃ pa ma pb mb, s = .mk 6 (pa.map fun x => kyOf x.1) (pa.map (·.2)) ma ∧ t = .mk 6 (pb.map fun x => kyOf x.1) (pb.map (·.2)) mb ∧ MoR pa ma pb mb r
theorem MoSt.w {s t r : ST} (h : MoSt s t r) : WS r ≤ WS s + WS t + 1 := by
  obtain ⟨pa, ma, pb, mb, rfl, rfl, h⟩ := h; exact h.w
def MoC (s t : ST) : Prop := ∀ (m : Mem) (x y : Value) (w : World), RT m (.iface 80 x) s → RT m (.iface 80 y) t → MLe m (ucell w) → WS s + WS t ≤ 100000 →
  Calls Tryz.prog 93 #[x, y] w (fun e w' => ∃ p r, MoSt s t r ∧ e = .returned (.pointer p) ∧ RT (fr m w.heap.size w' none) (.iface 80 (.pointer p)) r ∧ Below w.heap.size w w')
theorem dyM_none {m : Mem} {more : List ST} (h : DyM m (.pointer none) more) : more = [] := by
  rcases h with ⟨_, h⟩ | ⟨q, _, _, _, _, h, _⟩
  · exact h
  · cases h
theorem dyM_some {m : Mem} {q : Addr} {more : List ST} (h : DyM m (.pointer (some q)) more) : more ≠ [] := by
  rcases h with ⟨h, _⟩ | ⟨_, _, _, _, _, _, h, _⟩
  · cases h
  · rw [h]; simp
theorem moD_n {m : Mem} {ma mb : List ST} (h : DyM m (.pointer none) ma) (h' : DyM m (.pointer none) mb) : MoD ma mb mb := by
  rw [dyM_none h, dyM_none h']; exact ⟨fun _ => rfl, fun _ => rfl, by simp [WSs]⟩
theorem moD_a {m : Mem} {ma mb : List ST} {q : Addr} (h : DyM m (.pointer (some q)) ma) (h' : DyM m (.pointer none) mb) : MoD ma mb ma := by
  rw [dyM_none h']; exact ⟨fun e => absurd e (dyM_some h), fun _ => rfl, by simp [WSs]; try omega⟩
theorem moD_b {m : Mem} {ma mb : List ST} {q : Addr} (h : DyM m (.pointer none) ma) (h' : DyM m (.pointer (some q)) mb) : MoD ma mb mb := by
  rw [dyM_none h]; exact ⟨fun _ => rfl, fun e => absurd e (dyM_some h'), by simp [WSs]; try omega⟩
theorem zip_apartK {PA : List Pr} {xs : List Value} {zA : List (AK × Value)} (e : (PA.map (·.1)).zip xs = zA) (h : (PA.map (·.1)).Nodup) (hx : xs.length = PA.length) : ∀ i (h : i < zA.length), ∀ q ∈ zA.take i, q.1 ≠ (zA[i]).1 := by
  subst e
  intro i hi q hq e
  obtain ⟨j, hj, rfl⟩ := List.getElem_of_mem hq
  have hj' : j < i := by simp at hj; omega
  simp only [List.getElem_take, List.getElem_zip] at e
  have := nodup_inj h (by simp at hj hi ⊢; omega) (by simp at hi ⊢; omega) e
  omega
theorem len182 {w : World} {b : Nat} {L : List (AK × Value)} (h : MapA w b L) (ty : TypeId) : (Builtin.len_ #[182] ty #[.map (some b)]).run Tryz.prog w = .ok (.int .i64 L.length) w := by
  unfold MapA at h
  simp [Builtin.len_, run_underlying Tryz.underlying182, MapKept.run_getObj_map h, goInt, Result.andThen, ents_len]
theorem wpList_lenA {w : World} {ops : Array Oper} {rest : List Oper} {o : Oper} {a : Act} {Q : Exit → Act → World → Prop} (hg : o.guard = none) (m : Operand) (hop : o.op = Op.call { callee := Callee.builtin Builtin.len, args := #[m], argTypes := #[182] })
    (b : Nat) (L : List (AK × Value)) (hm : a.eval m = .map (some b)) (h : MapA w b L) (hK : wpList Tryz.prog ops Q rest (a.put o.dst (.int .i64 L.length)) w) : wpList Tryz.prog ops Q (o :: rest) a w := by
  refine wpList_plain hg fun K' hK' => ?_
  unfold Oper.wp
  simp [execOp, hop, resolve, invoke, builtin, hm, len182 h, Result.andThen]
  exact hK' _ _ hK
theorem assert80 {T X : TypeId} {u : Value} (h : ¬ T = 80) (w : World) : (Instr.typeAssert (.iface T u) X 80 true).run Tryz.prog w = .ok (.tuple #[.pointer none, .bool false]) w := by
  unfold Instr.typeAssert
  simp [go_sem, Tryz.underlying80, Tryz.zeroValue80, h]
theorem Mo2.first {m : Mem} {w W : World} {mb : Nat} {pa qb : List Pr} {L : List (AK × Value)} {T : List Pr} {wr : World} (h : Mo2 m w W mb pa qb L T wr) {j : Nat} (hj : j < L.length) {k : AK} (e : L[j].1 = k) : ∀ j' (h : j' < j), (L[j']'(Nat.lt_trans h hj)).1 ≠ k := fun j' hj' e' => by
  obtain ⟨h1, h2, _, h4, _⟩ := h
  have := nodup_inj h4.1 (i := j') (j := j) (by simp; omega) (by simp; omega) (by
    simp only [List.getElem_map]
    rw [← h2 j' (by omega) (by omega), ← h2 j hj (by omega), e, e'])
  omega
theorem Mo2.ws {m : Mem} {w W : World} {mb : Nat} {pa qb : List Pr} {L : List (AK × Value)} {T : List Pr} {wr : World} (h : Mo2 m w W mb pa qb L T wr) {q : Pr} (hq : ∀ q' ∈ qb, q'.1 ≠ q.1) {j : Nat} (hj : j < L.length) (hj2 : j < T.length) (e : L[j].1 = q.1) : T[j] ∈ pa ∧ WS T[j].2 ≤ PW pa := by
  obtain ⟨h1, h2, _, h4, _⟩ := h
  have hm := moI_from h4 hq hj2 (by rw [← h2 j hj hj2]; exact e)
  refine ⟨hm, Nat.le_trans ?_ (pw_mem hm)⟩
  unfold pw; omega
theorem take_ne {PB : List Pr} (h : (PB.map (·.1)).Nodup) {k : Nat} (hk : k < PB.length) : ∀ q' ∈ PB.take k, q'.1 ≠ PB[k].1 := fun q hq e => by
  obtain ⟨j, hj, rfl⟩ := List.getElem_of_mem hq
  have hj' : j < k := by simp at hj; omega
  have := nodup_inj h (i := j) (j := k) (by simp; omega) (by simpa using hk) (by simpa using e)
  omega
theorem pw_at {L : List Pr} {k : Nat} (hk : k < L.length) : WS L[k].2 ≤ PW L := by
  refine Nat.le_trans ?_ (pw_mem (List.getElem_mem hk))
  unfold pw; omega
theorem gb_drew {a b : World} {r : Option Nat} (h : a.drew.grownBy b r) : a.grownBy b r := ⟨h.os, h.tape, h.output, h.size, h.block⟩
theorem or_ws {s t r : ST} {o : Option ST} (h : OrP (some s) (some t) o) (e : o = some r) (hn : NT r) : WS r ≤ WS s + WS t + 1 := by
  subst e
  have h1 := h.2
  have h2 := WS_ow r hn
  have h3 := OW_le s
  have h4 := OW_le t
  rw [show OWo (some r) = OW r from rfl, show OWo (some s) = OW s from rfl, show OWo (some t) = OW t from rfl] at h1
  omega
theorem Own.objectE {m : Mem} {B b : Nat} {w : World} {v dv : Value} {l : List Pr} {more : List ST} (h : Own ESP m 100 1 B w v l) (so : l.Pairwise (fun a b => AK.lt a.1 b.1)) (hB : B ≤ b) (hb : w.heap[b]? = some (.cells #[v, dv] 154 (0, 0))) (hd : DyM (fr m B w none) dv more) :
    RT (fr m B w none) (.iface 80 (.pointer (some ⟨b, 0, none⟩))) (.mk 6 (l.map fun x => kyOf x.1) (l.map (·.2)) more) := by
  obtain ⟨a, c, f, rfl, h1, h2, hr, hx⟩ := h.row em_ESP
  obtain ⟨pxs, hl, hp⟩ := ex_list l.length (fun i (x : Nat × Value) => f i = [.pointer (some ⟨x.1, 0, none⟩)] ∧ ∀ (h : i < l.length), fr m B w none ⟨x.1, 0, none⟩ = some l[i].1.v ∧ fr m B w none ⟨x.1, 1, none⟩ = some x.2 ∧ RT (fr m B w none) x.2 l[i].2)
    (fun i hi => by obtain ⟨p, tv, e1, e2, e3, e4⟩ := hx i hi; exact ⟨(p, tv), e1, fun _ => ⟨e2, e3, e4⟩⟩)
  have hfr : ∀ (a : Addr) v, B ≤ a.block → ucell w a = some v → fr m B w none a = some v := fun a v h1 h2 => by unfold fr; rw [if_pos h1, if_neg (by simp)]; exact h2
  have e0 : (l.map fun x => kyOf x.1) = (l.map (·.1)).map kyOf := by simp
  rw [e0]
  obtain ⟨ds, hd1, hd2⟩ : ∃ ds : List Value, (dv = .pointer none ∧ more = [] ∨ ∃ q, dv = .pointer (some ⟨q, 0, none⟩) ∧ ds.length = 2 ∧ more.length = 2 ∧ ∀ i (h : i < ds.length), fr m B w none ⟨q, i, none⟩ = some ds[i]) ∧ ∀ i (h1 : i < ds.length) (h2 : i < more.length), RT (fr m B w none) ds[i] more[i] := by
    rcases hd with ⟨g1, g2⟩ | ⟨q, x1, x2, s1, s2, g1, rfl, g3, g4, g5, g6⟩
    · exact ⟨[], .inl ⟨g1, g2⟩, fun i h => absurd h (Nat.not_lt_zero _)⟩
    · refine ⟨[x1, x2], .inr ⟨q, g1, rfl, rfl, fun i hi => ?_⟩, fun i hi _ => ?_⟩
      · match i, hi with
        | 0, _ => exact g3
        | 1, _ => exact g4
        | n + 2, hi => exact absurd hi (by simp)
      · match i, hi with
        | 0, _ => exact g5
        | 1, _ => exact g6
        | n + 2, hi => exact absurd hi (by simp)
  refine RT.obj (kids := l.map (·.2)) (ps := pxs.map (·.1)) (xs := pxs.map (·.2)) (ks := l.map (·.1)) (dv := dv) (ds := ds) (a := a) (c := c) ?_ (hfr _ _ hB (ucell_blk hb 1 rfl)) ?_ (by simp [hl]) (by simp [hl]) (by simp) ?_ ?_ ?_ ?_ ?_ hd1 hd2
  · rw [List.length_map]; exact hfr _ _ hB (ucell_blk hb 0 rfl)
  · rw [List.length_map]; exact ⟨h1, Nat.le_trans h2 (by simp [maxLen])⟩
  · refine rowX_of hr (by simp [hl]) (fun i hi => ?_)
    have hi' : i < pxs.length := by simpa using hi
    simpa using (hp i hi').1
  · intro i h1 h2
    have hi' : i < pxs.length := by simpa using h1
    simpa using ((hp i hi').2 (by omega)).1
  · intro i h1 h2
    have hi' : i < pxs.length := by simpa using h1
    simpa using ((hp i hi').2 (by omega)).2.1
  · intro i h1 h2
    have hi' : i < pxs.length := by simpa using h1
    simpa using ((hp i hi').2 (by omega)).2.2
  · rw [List.pairwise_map]; exact so
theorem esp_newA {M : Mem} {w2 : World} {V : Nat} {y : Value} {q : Pr} (hl : Lo M w2.heap.size) (hrt : RT M (.iface V y) q.2) : ESP (fr M w2.heap.size (w2.alloc (.cells #[q.1.v, .iface V y] 103)) none) [.pointer (some ⟨w2.heap.size, 0, none⟩)] q := by
  have hc : ∀ i (v : Value), (#[q.1.v, Value.iface V y] : Array Value)[i]? = some v → fr M w2.heap.size (w2.alloc (.cells #[q.1.v, .iface V y] 103)) none ⟨w2.heap.size, i, none⟩ = some v := fun i v h => by
    unfold fr
    rw [if_pos (Nat.le_refl _), if_neg (by simp)]
    exact ucell_blk (al_new rfl) i h
  exact ⟨_, _, rfl, hc 0 _ rfl, hc 1 _ rfl, hrt.mono (fr_old hl)⟩
end Go.Proofs.YtaglgokeejjagaaGreat
