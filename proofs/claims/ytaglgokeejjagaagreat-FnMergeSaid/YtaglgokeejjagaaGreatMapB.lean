/- 'range' over maps whose keys are interfaces. -/
import Derived.Test.YtaglgokeejjagaaGreatCmpE
import Derived.WalkSpells
import Derived.Laws.OwnMore
/- Maps whose keys are interfaces: nil, truth values and texts. -/
namespace Go.Proofs.YtaglgokeejjagaaGreat
set_option linter.unusedVariables false
set_option linter.unusedSimpArgs false
open Go.RowKit Go.Sort Go.Maps

theorem inf4 : ∃ i, Tryz.prog.info? 4 = some i ∧ i.comparable = true := by
  have h : (Tryz.prog.info? 4).map (fun i => i.comparable) = some true := by kernel_rfl
  cases e : Tryz.prog.info? 4 with
  | none => rw [e] at h; cases h
  | some i => rw [e] at h; exact ⟨i, rfl, Option.some.inj h⟩
theorem inf9 : ∃ i, Tryz.prog.info? 9 = some i ∧ i.comparable = true := by
  have h : (Tryz.prog.info? 9).map (fun i => i.comparable) = some true := by kernel_rfl
  cases e : Tryz.prog.info? 9 with
  | none => rw [e] at h; cases h
  | some i => rw [e] at h; exact ⟨i, rfl, Option.some.inj h⟩
theorem check20' (em : Bool) (n : Nat) (k : AK) (w : World) : (Instr.checkKey em (n + 1 + 1) 20 k.v).run Tryz.prog w = .ok () w := by
  obtain ⟨i4, h4, c4⟩ := inf4
  obtain ⟨i9, h9, c9⟩ := inf9
  cases k with
  | none =>
    rw [AK.v, Instr.checkKey]
    simp [run_underlying Tryz.underlying20]
  | bool b =>
    rw [AK.v, Instr.checkKey]
    simp [run_underlying Tryz.underlying20, typeInfo, h4, c4]
    rw [Instr.checkKey]
    simp [run_underlying Tryz.underlying4]
  | text t =>
    rw [AK.v, Instr.checkKey]
    simp [run_underlying Tryz.underlying20, typeInfo, h9, c9]
    rw [Instr.checkKey]
    simp [run_underlying Tryz.underlying9]
theorem check20 (em : Bool) (k : AK) (w : World) : (Instr.checkKey em 10000 20 k.v).run Tryz.prog w = .ok () w := check20' em 9998 k w
theorem eq20' (n : Nat) (a b : AK) (w : World) : (a = b → (Op.equalIn (n + 1 + 1) 20 a.v b.v).run Tryz.prog w = .ok true w) ∧ (a ≠ b → (Op.equalIn (n + 1 + 1) 20 a.v b.v).run Tryz.prog w = .ok false w) := by
  obtain ⟨i4, h4, c4⟩ := inf4
  obtain ⟨i9, h9, c9⟩ := inf9
  refine ⟨fun e => ?_, fun e => ?_⟩
  · subst e
    cases a with
    | none => rw [AK.v, Op.equalIn]; simp [run_underlying Tryz.underlying20]
    | bool x =>
      rw [AK.v, Op.equalIn]
      simp [run_underlying Tryz.underlying20, typeInfo, h4, c4]
      rw [Op.equalIn]
      simp [run_underlying Tryz.underlying4]
    | text t =>
      rw [AK.v, Op.equalIn]
      simp [run_underlying Tryz.underlying20, typeInfo, h9, c9]
      rw [Op.equalIn]
      simp [run_underlying Tryz.underlying9, (MapKept.bytes_beq _ _).2 rfl]
  · cases a with
    | none =>
      cases b with
      | none => exact absurd rfl e
      | bool x => rw [AK.v, AK.v, Op.equalIn]; simp [run_underlying Tryz.underlying20]
      | text t => rw [AK.v, AK.v, Op.equalIn]; simp [run_underlying Tryz.underlying20]
    | bool y =>
      cases b with
      | none => rw [AK.v, AK.v, Op.equalIn]; simp [run_underlying Tryz.underlying20]
      | bool x =>
        have hne : ¬ y = x := fun h => e (by rw [h])
        rw [AK.v, AK.v, Op.equalIn]
        simp [run_underlying Tryz.underlying20, typeInfo, h4, c4]
        rw [Op.equalIn]
        simp [run_underlying Tryz.underlying4, hne]
      | text t => rw [AK.v, AK.v, Op.equalIn]; simp [run_underlying Tryz.underlying20]
    | text s =>
      cases b with
      | none => rw [AK.v, AK.v, Op.equalIn]; simp [run_underlying Tryz.underlying20]
      | bool x => rw [AK.v, AK.v, Op.equalIn]; simp [run_underlying Tryz.underlying20]
      | text t =>
        have hne : ¬ s = t := fun h => e (by rw [h])
        rw [AK.v, AK.v, Op.equalIn]
        simp [run_underlying Tryz.underlying20, typeInfo, h9, c9]
        rw [Op.equalIn]
        have hb : (s == t) = false := by
          cases hb : (s == t) with
          | false => rfl
          | true => exact absurd ((MapKept.bytes_beq _ _).1 hb) hne
        simp [run_underlying Tryz.underlying9, hb]
theorem eq20_yes (a : AK) (w : World) : (Op.equal 20 a.v a.v).run Tryz.prog w = .ok true w := (eq20' 9998 a a w).1 rfl
theorem eq20_no {a b : AK} (h : a ≠ b) (w : World) : (Op.equal 20 a.v b.v).run Tryz.prog w = .ok false w := (eq20' 9998 a b w).2 h
/-- Entries with the stamps from s on. -/
def ents (s : Nat) : List (AK × Value) → List MapEntry
  | [] => []
  | p :: L => { key := p.1.v, val := p.2, born := s } :: ents (s + 1) L
theorem ents_len (s : Nat) (L : List (AK × Value)) : (ents s L).length = L.length := by
  induction L generalizing s with
  | nil => rfl
  | cons p L ih => rw [ents, List.length_cons, List.length_cons, ih]
theorem ents_at (s : Nat) (L : List (AK × Value)) (i : Nat) (h : i < L.length) : (ents s L)[i]? = some { key := L[i].1.v, val := L[i].2, born := s + i } := by
  induction L generalizing s i with
  | nil => exact absurd h (Nat.not_lt_zero _)
  | cons p L ih =>
    cases i with
    | zero => rfl
    | succ i =>
      rw [ents, List.getElem?_cons_succ, ih (s + 1) i (by simpa using h)]
      simp [Nat.add_assoc, Nat.add_comm 1 i]
theorem ask_no {k : AK} : ∀ (L : List (AK × Value)) (s i : Nat) (w : World), (∀ p ∈ L, p.1 ≠ k) → (Instr.findAsking 20 k.v (ents s L) i).run Tryz.prog w = .ok none w
  | [], _, _, _, _ => rfl
  | p :: L, s, i, w, h => by
    rw [ents, Instr.findAsking]
    simp [eq20_no (fun e => h p List.mem_cons_self e.symm), Result.andThen]
    exact ask_no L (s + 1) (i + 1) w (fun q hq => h q (List.mem_cons_of_mem _ hq))
theorem ask_yes {k : AK} : ∀ (L : List (AK × Value)) (s i : Nat) (w : World) (j : Nat) (hj : j < L.length), L[j].1 = k → (∀ j' (h : j' < j), (L[j']'(Nat.lt_trans h hj)).1 ≠ k) → (Instr.findAsking 20 k.v (ents s L) i).run Tryz.prog w = .ok (some (i + j, L[j].2)) w
  | [], _, _, _, j, hj, _, _ => absurd hj (Nat.not_lt_zero _)
  | p :: L, s, i, w, 0, hj, e, _ => by
    rw [ents, Instr.findAsking]
    simp only [List.getElem_cons_zero] at e ⊢
    subst e
    simp [eq20_yes, Result.andThen]
  | p :: L, s, i, w, j + 1, hj, e, h => by
    rw [ents, Instr.findAsking]
    have h0 := h 0 (Nat.succ_pos _)
    simp only [List.getElem_cons_zero] at h0
    simp [eq20_no (fun e => h0 e.symm), Result.andThen]
    have := ask_yes L (s + 1) (i + 1) w j (by simpa using hj) (by simpa using e) (fun j' h' => by have := h (j' + 1) (by omega); simpa using this)
    rw [this]
    simp [Nat.add_assoc, Nat.add_comm 1 j]
theorem now20 (k : AK) (L : List (AK × Value)) (s : Nat) : Instr.findNow (.interface #[]) k.v (ents s L) 0 = if L = [] then some none else none := by
  cases L with
  | nil => rfl
  | cons p L => rw [ents, Instr.findNow]; cases k <;> simp [AK.v, Instr.sameNow]
theorem find_no {k : AK} {L : List (AK × Value)} (w : World) (h : ∀ p ∈ L, p.1 ≠ k) : (Instr.findKey 20 k.v (ents 0 L)).run Tryz.prog w = .ok none w := by
  simp only [Instr.findKey, Sem.run_bind, run_underlying Tryz.underlying20, Result.andThen, now20]
  by_cases h0 : L = []
  · rw [if_pos h0]; rfl
  · rw [if_neg h0]; exact ask_no L 0 0 w h
theorem find_yes {k : AK} {L : List (AK × Value)} (w : World) {j : Nat} (hj : j < L.length) (e : L[j].1 = k) (h : ∀ j' (h : j' < j), (L[j']'(Nat.lt_trans h hj)).1 ≠ k) : (Instr.findKey 20 k.v (ents 0 L)).run Tryz.prog w = .ok (some (j, L[j].2)) w := by
  have hne : L ≠ [] := fun e => by subst e; exact absurd hj (Nat.not_lt_zero _)
  simp only [Instr.findKey, Sem.run_bind, run_underlying Tryz.underlying20, Result.andThen, now20]
  rw [if_neg hne]
  have := ask_yes L 0 0 w j hj e h
  rw [Nat.zero_add] at this
  exact this
/-- The map has just these entries, in the order in which they came. -/
def MapA (w : World) (b : Nat) (L : List (AK × Value)) : Prop := w.heap[b]? = some (.map (ents 0 L).toArray L.length)
theorem ents_snoc (s : Nat) (L : List (AK × Value)) (p : AK × Value) : ents s (L ++ [p]) = ents s L ++ [{ key := p.1.v, val := p.2, born := s + L.length }] := by
  induction L generalizing s with
  | nil => rfl
  | cons q L ih => rw [List.cons_append, ents, ents, ih, List.cons_append, List.length_cons]; simp [Nat.add_assoc, Nat.add_comm 1]
theorem ents_set (s : Nat) (L : List (AK × Value)) (j : Nat) (k : AK) (x : Value) (hj : j < L.length) : (ents s L).modify j (fun e => { e with key := k.v, val := x }) = ents s (L.set j (k, x)) := by
  induction L generalizing s j with
  | nil => exact absurd hj (Nat.not_lt_zero _)
  | cons q L ih =>
    cases j with
    | zero => rfl
    | succ j => rw [ents, nrC, ents, List.modify_succ_cons, ih (s + 1) j (by simpa using hj)]
theorem stays20 (k : AK) (w : World) : (Instr.keyThatStays k.v k.v).run Tryz.prog w = .ok k.v w := by
  have h : Instr.sameBits (9998 + 1 + 1) k.v k.v = true := by
    cases k with
    | none => rfl
    | bool b => cases b <;> rfl
    | text t => simp [AK.v, Instr.sameBits, (MapKept.bytes_beq t t).2 rfl]
  unfold Instr.keyThatStays
  rw [if_pos h]
  rfl
theorem upd_no {w : World} {b : Nat} {L : List (AK × Value)} {k : AK} (x : Value) (hb : MapA w b L) (h : ∀ p ∈ L, p.1 ≠ k) : (Instr.mapUpdate 182 (.map (some b)) k.v x).run Tryz.prog w = .ok () (ChangeMaps.setBlock w b (.map (ents 0 (L ++ [(k, x)])).toArray (L ++ [(k, x)]).length)) := by
  unfold MapA at hb
  simp [Instr.mapUpdate, run_underlying Tryz.underlying182, MapKept.run_getObj_map hb, check20, find_no w h, MapKept.run_setObj_map _ hb, Result.andThen, ChangeMaps.setBlock, ents_snoc]
theorem upd_yes {w : World} {b : Nat} {L : List (AK × Value)} {k : AK} (x : Value) (hb : MapA w b L) {j : Nat} (hj : j < L.length) (e : L[j].1 = k) (h : ∀ j' (h : j' < j), (L[j']'(Nat.lt_trans h hj)).1 ≠ k) : (Instr.mapUpdate 182 (.map (some b)) k.v x).run Tryz.prog w = .ok () (ChangeMaps.setBlock w b (.map (ents 0 (L.set j (k, x))).toArray (L.set j (k, x)).length)) := by
  unfold MapA at hb
  have ha := ents_at 0 L j hj
  rw [e] at ha
  simp [Instr.mapUpdate, run_underlying Tryz.underlying182, MapKept.run_getObj_map hb, check20, find_yes w hj e h, MapKept.run_setObj_map _ hb, Result.andThen, ChangeMaps.setBlock, ha, stays20, ents_set 0 L j k x hj]
theorem look_no {w : World} {b : Nat} {L : List (AK × Value)} {k : AK} (hb : MapA w b L) (h : ∀ p ∈ L, p.1 ≠ k) : (Instr.lookup 182 (.map (some b)) k.v false).run Tryz.prog w = .ok .nilIface w := by
  unfold MapA at hb
  simp [Instr.lookup, run_underlying Tryz.underlying182, MapKept.run_getObj_map hb, check20, find_no w h, Result.andThen, Tryz.zeroValue74]
theorem look_yes {w : World} {b : Nat} {L : List (AK × Value)} {k : AK} (hb : MapA w b L) {j : Nat} (hj : j < L.length) (e : L[j].1 = k) (h : ∀ j' (h : j' < j), (L[j']'(Nat.lt_trans h hj)).1 ≠ k) : (Instr.lookup 182 (.map (some b)) k.v false).run Tryz.prog w = .ok L[j].2 w := by
  unfold MapA at hb
  simp [Instr.lookup, run_underlying Tryz.underlying182, MapKept.run_getObj_map hb, check20, find_yes w hj e h, Result.andThen]
end Go.Proofs.YtaglgokeejjagaaGreat
namespace Go.Proofs.YtaglgokeejjagaaGreat
set_option linter.unusedVariables false
set_option linter.unusedSimpArgs false
open Go.RowKit Go.Sort Go.Maps

theorem ents_mem {s : Nat} {L : List (AK × Value)} {e : MapEntry} (h : e ∈ ents s L) : ∃ j, ∃ hj : j < L.length, e = { key := L[j].1.v, val := L[j].2, born := s + j } := by
  obtain ⟨j, hj, rfl⟩ := List.getElem_of_mem h
  have hl : j < L.length := by rw [ents_len] at hj; exact hj
  have h2 := ents_at s L j hl
  rw [List.getElem?_eq_getElem hj] at h2
  exact ⟨j, hl, Option.some.inj h2⟩
theorem ents_in (s : Nat) (L : List (AK × Value)) {j : Nat} (hj : j < L.length) : ({ key := L[j].1.v, val := L[j].2, born := s + j } : MapEntry) ∈ ents s L := List.mem_of_getElem? (ents_at s L j hj)
theorem ents_born (s : Nat) (L : List (AK × Value)) : ((ents s L).map (·.born)).Nodup := by
  rw [List.Nodup, List.pairwise_map, List.pairwise_iff_getElem]
  intro i j hi hj hij e
  have hi' : i < L.length := by rw [ents_len] at hi; exact hi
  have hj' : j < L.length := by rw [ents_len] at hj; exact hj
  have e1 := ents_at s L i hi'
  have e2 := ents_at s L j hj'
  rw [List.getElem?_eq_getElem hi] at e1
  rw [List.getElem?_eq_getElem hj] at e2
  rw [Option.some.inj e1, Option.some.inj e2] at e
  simp at e
  omega
section
variable (w : World) {ops : Array Oper} {rest : List Oper} {o : Oper} {a : Act} {Q : Exit → Act → World → Prop}
theorem wpList_rangeA (hg : o.guard = none) (m : Operand) (hop : o.op = Op.range 182 m) (b : Nat) (L : List (AK × Value)) (hm : a.eval m = .map (some b)) (h : MapA w b L)
    (hK : wpList Tryz.prog ops Q rest (a.put o.dst (.pointer (some ⟨w.heap.size, 0, none⟩))) (w.alloc (.mapIter (some b) L.length #[] L.length))) : wpList Tryz.prog ops Q (o :: rest) a w := by
  refine wpList_plain hg fun K' hK' => ?_
  have hrun := run_range_map (P := Tryz.prog) w 182 20 74 b (ents 0 L).toArray L.length Tryz.underlying182 h
  unfold Oper.wp
  simp [execOp, hop, hm, hrun, Result.andThen]
  exact hK' _ _ hK
theorem wpList_nextA (hg : o.guard = none) (it : Operand) (hop : o.op = Op.next it false) (b r : Nat) (L : List (AK × Value)) (seen : Array Nat) (hit : a.eval it = .pointer (some ⟨r, 0, none⟩)) (h : MapA w b L) (hr : w.heap[r]? = some (.mapIter (some b) L.length seen L.length)) (hne : r ≠ b)
    (hDone : (∀ j, j < L.length → seen.contains j = true) → wpList Tryz.prog ops Q rest (a.put o.dst (.tuple #[.bool false])) w)
    (hMore : ∀ j (hj : j < L.length) (w' : World), seen.contains j = false → w'.heap[r]? = some (.mapIter (some b) L.length (seen.push j) L.length) → w.grownBy w' (some r) → w'.heap.size = w.heap.size → (Instr.entry (.pointer (some ⟨r, 0, none⟩))).run Tryz.prog w' = .ok (.tuple #[L[j].1.v, L[j].2]) w' →
      wpList Tryz.prog ops Q rest (a.put o.dst (.tuple #[.bool true, L[j].1.v, L[j].2])) w') : wpList Tryz.prog ops Q (o :: rest) a w := by
  refine wpList_plain hg fun K' hK' => ?_
  unfold Oper.wp
  rcases run_next_at (P := Tryz.prog) w o.type r b L.length L.length seen (ents 0 L).toArray L.length hr h (fun x hx => by
      obtain ⟨j, hj, rfl⟩ := ents_mem (by simpa using hx)
      simp; omega) (Nat.le_refl _) with ⟨h0, hrun⟩ | ⟨e, he, w1, hal, hrun⟩
  · simp [execOp, hop, hit, hrun, Result.andThen]
    exact hK' _ _ (hDone fun j hj => by
      have := all_seen _ _ h0 _ (by simpa using ents_in 0 L hj)
      simpa using this)
  · obtain ⟨hem, hes⟩ := mem_left he
    obtain ⟨j, hj, rfl⟩ := ents_mem (by simpa using hem)
    simp only [Nat.zero_add] at hes hrun
    have hr1 : w1.heap[r]? = some (.mapIter (some b) L.length seen L.length) := by rcases hal with rfl | rfl <;> exact hr
    have hb1 : w1.heap[b]? = some (.map (ents 0 L).toArray L.length) := by rcases hal with rfl | rfl <;> exact h
    have hset := MapKept.heap_set (o' := .mapIter (some b) L.length (seen.push j) L.length) hr1
    have hb' : (ChangeMaps.setBlock w1 r (.mapIter (some b) L.length (seen.push j) L.length)).heap[b]? = some (.map (ents 0 L).toArray L.length) := (hset.2 b (fun e1 => hne e1.symm)).trans hb1
    simp [execOp, hop, hit, hrun, Result.andThen]
    refine hK' _ _ (hMore j hj _ hes hset.1 ?_ ?_ ?_)
    · rcases hal with rfl | rfl <;> exact ⟨rfl, rfl, rfl, by simp [ChangeMaps.setBlock], fun i _ hi => hset.2 i (fun e1 => hi (by rw [e1]))⟩
    · rcases hal with rfl | rfl <;> simp [ChangeMaps.setBlock]
    · exact run_entry_at _ r b L.length seen (ents 0 L).toArray L.length { key := L[j].1.v, val := L[j].2, born := j } hset.1 hb' (by simpa using ents_in 0 L hj) (by simpa using ents_born 0 L)
end
/-- How much of a map is still to come. -/
def leftA (w : World) (r n : Nat) : Nat := match w.heap[r]? with
  | some (.mapIter _ _ seen _) => n - seen.size
  | _ => 0
theorem leftA_of {w : World} {r n b s c : Nat} {seen : Array Nat} (h : w.heap[r]? = some (.mapIter (some b) s seen c)) : leftA w r n = n - seen.size := by unfold leftA; rw [h]
end Go.Proofs.YtaglgokeejjagaaGreat
