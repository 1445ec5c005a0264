/- 'works'. -/
import Derived.Test.YtaglgokeejjagaaGreatTyB
import Derived.WalkSpells
import Derived.Laws.OwnMore
import Derived.BigQuiet
/- What makes types: properties, objects, arrays. -/
namespace Go.Proofs.YtaglgokeejjagaaGreat
set_option linter.unusedVariables false
set_option linter.unusedSimpArgs false
open Go.RowKit Go.Sort Go.Shelf

theorem RT.shape {m : Mem} {v : Value} {t : ST} (r : RT m v t) : ∃ T y, v = .iface T y := by cases r <;> exact ⟨_, _, rfl⟩
theorem AK.shape (k : AK) : k.v = .nilIface ∨ ∃ T y, k.v = .iface T y := by cases k; exact .inl rfl; all_goals exact .inr ⟨_, _, rfl⟩

def NspP (k x : Value) (w : World) (e : Ending) (w' : World) : Prop := e = .returned (.pointer (some ⟨w.heap.size, 0, none⟩)) ∧ w' = w.alloc (.cells #[k, x] 103)
set_option maxHeartbeats 1000000 in
set_option maxRecDepth 100000 in
theorem nsp_any (k : AK) (T : Nat) (y : Value) (w : World) : Calls Tryz.prog 80 #[k.v, .iface T y] w (NspP k.v (.iface T y) w) := by
  rcases k.shape with h | ⟨T', y', h⟩
  all_goals
    rw [h]
    go_enter Tryz.func80, Tryz.ntmps80
    go_wp2
    go_ret
    exact ⟨rfl, rfl⟩

def NarP (v x : Value) (w : World) (e : Ending) (w' : World) : Prop := e = .returned (.pointer (some ⟨w.heap.size, 0, none⟩)) ∧ w' = w.alloc (.cells #[v, x] 151)
set_option maxHeartbeats 1000000 in
set_option maxRecDepth 100000 in
theorem nar_any (a : Option Addr) (n c : Nat) (x : Value) (hx : x = .nilIface ∨ ∃ T y, x = .iface T y) (w : World) : Calls Tryz.prog 77 #[.slice a n c, x] w (NarP (.slice a n c) x w) := by
  rcases hx with rfl | ⟨T', y', rfl⟩
  all_goals
    go_enter Tryz.func77, Tryz.ntmps77
    go_wp2
    go_ret
    exact ⟨rfl, rfl⟩

def ZsP (m : Mem) (B : Nat) (w : World) (v : Value) (l : List Pr) (e : Ending) (w' : World) : Prop :=
  ∃ l' : List Pr, e = .returned v ∧ l'.Perm l ∧ l'.Pairwise (fun a b => AK.lt a.1 b.1) ∧ Own ESP m 100 1 B w' v l' ∧ w.grownBy w' v.ownBlock
set_option maxHeartbeats 1000000 in
set_option maxRecDepth 100000 in
theorem zzSorted108 {m : Mem} {B : Nat} {w : World} {v : Value} {l : List Pr} (hm : MLe m w.cell?) (hl : Lo m B) (h : Own ESP m 100 1 B w v l) (hne : l.Pairwise (fun a b => a.1 ≠ b.1)) (hn : l.length < 1000000) :
    Calls Tryz.prog 108 #[v, .func (.func 109) #[] #[]] w (ZsP m B w v l) := by
  obtain ⟨a, n, c, rfl⟩ : ∃ a n c, v = .slice a n c := by
    obtain ⟨xs, ho, _⟩ := h
    rcases ho.2 with ⟨rfl, _⟩ | ⟨g, cap, cur, rfl, _⟩ <;> exact ⟨_, _, _, rfl⟩
  have HC := Lib.hid (sort117 hm hl h hne hn)
  clear h hne hm
  go_enter Tryz.func108, Tryz.ntmps108
  go_wp2_with (go_at_call 117; refine HC.out.mono ?_; rintro e w2 ⟨l', rfl, h1, h2, h3, h4⟩)
  go_ret
  exact ⟨l', rfl, h1, h2, h3, h4⟩

def NobP (m : Mem) (B : Nat) (w : World) (v dv : Value) (l : List Pr) (e : Ending) (w' : World) : Prop :=
  ∃ (b : Nat) (l' : List Pr), e = .returned (.pointer (some ⟨b, 0, none⟩)) ∧ w.heap.size ≤ b ∧ w'.heap[b]? = some (.cells #[v, dv] 154 (0, 0)) ∧ l'.Perm l ∧ l'.Pairwise (fun a b => AK.lt a.1 b.1) ∧ Own ESP m 100 1 B w' v l' ∧ w.grownBy w' v.ownBlock
set_option maxHeartbeats 1000000 in
set_option maxRecDepth 100000 in
theorem newObject_any {m : Mem} {B : Nat} {w : World} {v : Value} {l : List Pr} {d : Option Addr} (hm : MLe m w.cell?) (hl : Lo m B) (h : Own ESP m 100 1 B w v l) (hne : l.Pairwise (fun a b => a.1 ≠ b.1)) (hn : l.length < 1000000) :
    Calls Tryz.prog 82 #[v, .pointer d] w (NobP m B w v (.pointer d) l) := by
  obtain ⟨a, n, c, rfl⟩ : ∃ a n c, v = .slice a n c := by
    obtain ⟨xs, ho, _⟩ := h
    rcases ho.2 with ⟨rfl, _⟩ | ⟨g, cap, cur, rfl, _⟩ <;> exact ⟨_, _, _, rfl⟩
  have HC := Lib.hid (zzSorted108 hm hl h hne hn)
  clear h hne hm
  go_enter Tryz.func82, Tryz.ntmps82
  go_wp2_with (go_at_call 108; refine HC.out.mono ?_; rintro e w2 ⟨l', rfl, h1, h2, h3, h4⟩)
  go_ret
  exact ⟨_, l', rfl, h4.size, al_new rfl, h1, h2, h3.alloc em_ESP _, h4.trans (World.grownBy_alloc _ _ _)⟩

theorem ex_list {α : Type} (n : Nat) (P : Nat → α → Prop) (h : ∀ i, i < n → ∃ x, P i x) : ∃ l : List α, l.length = n ∧ ∀ i (hi : i < l.length), P i l[i] := by
  induction n with
  | zero => exact ⟨[], rfl, fun i hi => absurd hi (Nat.not_lt_zero _)⟩
  | succ n ih =>
    obtain ⟨l, hl, hp⟩ := ih (fun i hi => h i (by omega))
    obtain ⟨x, hx⟩ := h n (by omega)
    refine ⟨l ++ [x], by simp [hl], fun i hi => ?_⟩
    by_cases e : i < l.length
    · rw [List.getElem_append_left e]; exact hp i e
    · obtain rfl : i = l.length := by simp at hi; omega
      simp only [List.getElem_concat_length]
      rw [hl]; exact hx

theorem rowX_of {m : Mem} {a : Option Addr} {n : Nat} {f : Nat → List Value} (h : Row m 1 a n f) {xs : List Value} (hx : xs.length = n) (he : ∀ i (hi : i < xs.length), f i = [xs[i]]) : RowX m a xs := by
  intro hn
  obtain ⟨b, off, e, hc⟩ := h (by omega)
  refine ⟨b, off, e, fun i hi j u hu => hc i (by omega) j u ?_⟩
  rw [he i hi]
  change [xs.getD i default][j]? = some u at hu
  rw [getD_eq _ _ hi] at hu
  exact hu

/-- The types of a row that the call owns. -/
theorem Own.types {m : Mem} {e B : Nat} {w : World} {v : Value} {l : List ST} (h : Own ET m e 1 B w v l) : ∃ a c xs, v = .slice a l.length c ∧ lenOk l.length c ∧ xs.length = l.length ∧ RowX (fr m B w none) a xs ∧ ∀ i (h1 : i < xs.length) (h2 : i < l.length), RT (fr m B w none) xs[i] l[i] := by
  obtain ⟨a, c, f, rfl, h1, h2, hr, hx⟩ := h.row em_ET
  obtain ⟨xs, hl, hp⟩ := ex_list l.length (fun i x => f i = [x] ∧ ∀ (h : i < l.length), RT (fr m B w none) x l[i]) (fun i hi => by obtain ⟨v, e1, e2⟩ := hx i hi; exact ⟨v, e1, fun _ => e2⟩)
  exact ⟨a, c, xs, rfl, ⟨h1, Nat.le_trans h2 (by simp [maxLen])⟩, hl, rowX_of hr hl (fun i hi => (hp i hi).1), fun i h1 h2 => (hp i h1).2 h2⟩

theorem Own.object {m : Mem} {B b : Nat} {w : World} {v : Value} {l : List Pr} (h : Own ESP m 100 1 B w v l) (so : l.Pairwise (fun a b => AK.lt a.1 b.1)) (hB : B ≤ b) (hb : w.heap[b]? = some (.cells #[v, .pointer none] 154 (0, 0))) :
    RT (fr m B w none) (.iface 80 (.pointer (some ⟨b, 0, none⟩))) (.mk 6 (l.map fun x => kyOf x.1) (l.map (·.2)) []) := by
  obtain ⟨a, c, f, rfl, h1, h2, hr, hx⟩ := h.row em_ESP
  obtain ⟨pxs, hl, hp⟩ := ex_list l.length (fun i (x : Nat × Value) => f i = [.pointer (some ⟨x.1, 0, none⟩)] ∧ ∀ (h : i < l.length), fr m B w none ⟨x.1, 0, none⟩ = some l[i].1.v ∧ fr m B w none ⟨x.1, 1, none⟩ = some x.2 ∧ RT (fr m B w none) x.2 l[i].2)
    (fun i hi => by obtain ⟨p, tv, e1, e2, e3, e4⟩ := hx i hi; exact ⟨(p, tv), e1, fun _ => ⟨e2, e3, e4⟩⟩)
  have hfr : ∀ (a : Addr) v, B ≤ a.block → ucell w a = some v → fr m B w none a = some v := fun a v h1 h2 => by unfold fr; rw [if_pos h1, if_neg (by simp)]; exact h2
  have e0 : (l.map fun x => kyOf x.1) = (l.map (·.1)).map kyOf := by simp
  rw [e0]
  refine RT.obj (kids := l.map (·.2)) (ps := pxs.map (·.1)) (xs := pxs.map (·.2)) (ks := l.map (·.1)) (dv := .pointer none) (ds := []) (a := a) (c := c) ?_ (hfr _ _ hB (ucell_blk hb 1 rfl)) ?_ (by simp [hl]) (by simp [hl]) (by simp) ?_ ?_ ?_ ?_ ?_ (.inl ⟨rfl, rfl⟩) (fun i h => absurd h (Nat.not_lt_zero _))
  · rw [List.length_map]; exact hfr _ _ hB (ucell_blk hb 0 rfl)
  · rw [List.length_map]; exact ⟨h1, Nat.le_trans h2 (by simp [maxLen])⟩
  · refine rowX_of hr (by simp [hl]) (fun i hi => ?_)
    have hi' : i < pxs.length := by simpa using hi
    simpa using (hp i hi').1
  · intro i h1 h2
    have hi' : i < pxs.length := by simpa using h1
    simpa using ((hp i hi').2 (by omega)).1
  · intro i h1 h2
    have hi' : i < pxs.length := by simpa using h1
    simpa using ((hp i hi').2 (by omega)).2.1
  · intro i h1 h2
    have hi' : i < pxs.length := by simpa using h1
    simpa using ((hp i hi').2 (by omega)).2.2
  · rw [List.pairwise_map]; exact so
end Go.Proofs.YtaglgokeejjagaaGreat
/- The type of a value. -/
namespace Go.Proofs.YtaglgokeejjagaaGreat
set_option linter.unusedVariables false
set_option linter.unusedSimpArgs false
open Go.RowKit Go.Sort Go.Maps

/-- The type of a value, with just its items and properties. -/
def tyOf : Vl → ST
  | .mk kd tx ks kids =>
    if kd = 0 then .mk 1 [] [] [] else if kd = 1 ∨ kd = 2 then .mk 2 [] [] [] else if kd = 3 then .mk 3 [] [] [] else if kd = 4 then .mk 4 [] [] []
    else if kd = 5 then .mk 5 [] (kids.map tyOf) [] else .mk 6 (ks.map fun k => ⟨4, k⟩) (kids.map tyOf) []
termination_by t => SizeOf.sizeOf t
decreasing_by
  all_goals exact Vl.lt_kid (by assumption)

end Go.Proofs.YtaglgokeejjagaaGreat
/- 'TypeOf'. -/
namespace Go.Proofs.YtaglgokeejjagaaGreat
set_option linter.unusedVariables false
set_option linter.unusedSimpArgs false
open Go.RowKit Go.Sort Go.Maps

def NewP (w : World) (e : Ending) (w' : World) : Prop := e = .returned (.agg #[]) ∧ Gr w w'
set_option maxHeartbeats 1000000 in
set_option maxRecDepth 100000 in
theorem new73 (w : World) : Calls Tryz.prog 73 #[] w (NewP w) := by
  go_enter Tryz.func73, Tryz.ntmps73
  go_wp2
  refine bodyPost_ret (v := .agg #[]) (by simp [results, Tryz.results73, go_sem]) rfl ⟨rfl, ?_⟩
  repeat (first | exact Gr.refl _ | refine Gr.alloc ?_ _ | refine Gr.setCell ?_ (by simp) _)
set_option maxHeartbeats 1000000 in
set_option maxRecDepth 100000 in
theorem new74 (w : World) : Calls Tryz.prog 74 #[] w (NewP w) := by
  go_enter Tryz.func74, Tryz.ntmps74
  go_wp2
  refine bodyPost_ret (v := .agg #[]) (by simp [results, Tryz.results74, go_sem]) rfl ⟨rfl, ?_⟩
  repeat (first | exact Gr.refl _ | refine Gr.alloc ?_ _ | refine Gr.setCell ?_ (by simp) _)
set_option maxHeartbeats 1000000 in
set_option maxRecDepth 100000 in
theorem new75 (w : World) : Calls Tryz.prog 75 #[] w (NewP w) := by
  go_enter Tryz.func75, Tryz.ntmps75
  go_wp2
  refine bodyPost_ret (v := .agg #[]) (by simp [results, Tryz.results75, go_sem]) rfl ⟨rfl, ?_⟩
  repeat (first | exact Gr.refl _ | refine Gr.alloc ?_ _ | refine Gr.setCell ?_ (by simp) _)
set_option maxHeartbeats 1000000 in
set_option maxRecDepth 100000 in
theorem new76 (w : World) : Calls Tryz.prog 76 #[] w (NewP w) := by
  go_enter Tryz.func76, Tryz.ntmps76
  go_wp2
  refine bodyPost_ret (v := .agg #[]) (by simp [results, Tryz.results76, go_sem]) rfl ⟨rfl, ?_⟩
  repeat (first | exact Gr.refl _ | refine Gr.alloc ?_ _ | refine Gr.setCell ?_ (by simp) _)

theorem PV.less {t : Vl} (h : PV t) (k : t.kind = 6) : ∀ i (h : i + 1 < t.keys.length), Less (t.keys[i]'(Nat.lt_of_succ_lt h)) t.keys[i + 1] := by cases t; exact h.out.2.2.2.2.2.2.1 k
theorem PV.len {t : Vl} (h : PV t) (k : t.kind = 6) : t.keys.length = t.kids.length := by cases t; exact h.out.2.2.2.2.1 k

/-- Two lists of properties in growing order that are one another's permutations are one. -/
theorem pr_unique : ∀ {l l' : List Pr}, l.Pairwise (fun a b => AK.lt a.1 b.1) → l'.Pairwise (fun a b => AK.lt a.1 b.1) → l.Perm l' → l = l'
  | [], l', _, _, h => (List.Perm.nil_eq h)
  | a :: r, [], _, _, h => by have := h.length_eq; simp at this
  | a :: r, b :: s, h1, h2, h => by
    obtain ⟨a1, a2⟩ := List.pairwise_cons.1 h1
    obtain ⟨b1, b2⟩ := List.pairwise_cons.1 h2
    have hab : a = b := by
      rcases List.mem_cons.1 (h.mem_iff.1 (List.mem_cons_self)) with e | ha
      · exact e
      · rcases List.mem_cons.1 (h.mem_iff.2 (List.mem_cons_self)) with e | hb
        · exact e.symm
        · exact absurd (AK.lt_trans (a1 b hb) (b1 a ha)) (AK.lt_irrefl _)
    subst hab
    rw [pr_unique a2 b2 (List.perm_cons _ |>.1 h)]
theorem perm_range {js : List Nat} {n : Nat} (h1 : js.Nodup) (h2 : ∀ j ∈ js, j < n) (h3 : ∀ j, j < n → j ∈ js) : js.Perm (List.range n) := by
  rw [List.perm_ext_iff_of_nodup h1 List.nodup_range]
  intro a
  rw [List.mem_range]
  exact ⟨h2 a, h3 a⟩
theorem Own.of_made {m : Mem} {B g n : Nat} {w : World} (h : w.ownsRow B 100 1 (.slice (some ⟨g, 0, none⟩) 0 n) 0 []) : Own ESP m 100 1 B w (.slice (some ⟨g, 0, none⟩) 0 n) [] := ⟨[], h, fun i hi => absurd hi (Nat.not_lt_zero _)⟩
theorem info100 : (Tryz.prog.info? 100).map (fun i => (i.zero, i.size, i.bytes)) = some (some (.pointer none), 1, 8) := by kernel_rfl
theorem gb_below {a b : World} (h : a.grownBy b none) : Below a.heap.size a b := ⟨h.os, h.tape, h.output, h.size, fun i hi => h.block i hi (by simp)⟩
theorem cells_new2 (w : World) (o : Obj) (l : List Value) (T : TypeId) : ∀ j u, l[j]? = some u → ((w.alloc o).alloc (.cells l.toArray T)).cell? ⟨w.heap.size + 1, j, none⟩ = some u := fun j u h => by
  have h2 := cells_new (w.alloc o) l T j u h
  simpa using h2
theorem fr_iter {m : Mem} {B r : Nat} {w w' : World} {ro : Option Nat} (hg : w.grownBy w' (some r)) (hi : ∃ b s se c, w.heap[r]? = some (.mapIter b s se c)) : MLe (fr m B w ro) (fr m B w' ro) := by
  obtain ⟨b, s, se, c, hi⟩ := hi
  intro a x h
  unfold fr at h ⊢
  split at h
  · rename_i h1
    split at h
    · cases h
    · rename_i h2
      rw [if_pos h1, if_neg h2]
      have hne : a.block ≠ r := fun e => by simp [ucell, e, hi] at h
      exact (ucell_of (hg.block a.block (ucell_lt h) (fun e => hne (Option.some.inj e)))).trans h
  · rename_i h1; rw [if_neg h1]; exact h
theorem Own.iter {α : Type} {E : Mem → List Value → α → Prop} {m : Mem} {e sz B r : Nat} {w w' : World} {v : Value} {l : List α} (h : Own E m e sz B w v l) (hE : EM E) (hg : w.grownBy w' (some r)) (hi : ∃ b s se c, w.heap[r]? = some (.mapIter b s se c)) : Own E m e sz B w' v l := by
  obtain ⟨xs, ho, hx⟩ := h
  refine ⟨xs, ⟨ho.1, ?_⟩, fun i h => hE _ _ _ _ (fr_iter hg hi) (hx i h)⟩
  rcases ho.2 with hn | ⟨g, cap, cur, rfl, hbg, hgg, rest⟩
  · exact .inl hn
  · refine .inr ⟨g, cap, cur, rfl, hbg, ?_, rest⟩
    rw [hg.block g (lt_blk hgg) (fun e => by obtain ⟨b, s, se, c, hi⟩ := hi; cases e; rw [hgg] at hi; cases hi)]
    exact hgg
theorem len_le : ∀ (n : Nat) (js : List Nat), js.Nodup → (∀ j ∈ js, j < n) → js.length ≤ n
  | 0, js, _, h => by
    cases js with
    | nil => simp
    | cons a r => exact absurd (h a List.mem_cons_self) (Nat.not_lt_zero _)
  | n + 1, js, hn, h => by
    by_cases hm : n ∈ js
    · have h1 := len_le n (js.erase n) (hn.erase n) (fun j hj => by
        have h2 := hn.mem_erase_iff.1 hj
        have := h j h2.2
        have := h2.1
        omega)
      rw [List.length_erase_of_mem hm] at h1
      omega
    · have h1 := len_le n js hn (fun j hj => by
        have := h j hj
        have : j ≠ n := fun e => hm (e ▸ hj)
        omega)
      omega
theorem own_ne_iter {α : Type} {E : Mem → List Value → α → Prop} {m : Mem} {e sz B r : Nat} {w : World} {v : Value} {l : List α} (h : Own E m e sz B w v l) (hi : ∃ b s se c, w.heap[r]? = some (.mapIter b s se c)) : some r ≠ v.ownBlock := by
  obtain ⟨xs, ho, _⟩ := h
  obtain ⟨b, s, se, c, hi⟩ := hi
  rcases ho.2 with ⟨rfl, _⟩ | ⟨g, cap, cur, rfl, _, hg, _⟩
  · simp [Value.ownBlock]
  · intro e1
    have : r = g := by simpa [Value.ownBlock] using e1
    subst this
    rw [hi] at hg
    cases hg
instance : Inhabited Vl := ⟨.mk 0 ⟨#[]⟩ [] []⟩
end Go.Proofs.YtaglgokeejjagaaGreat
namespace Go.Proofs.YtaglgokeejjagaaGreat
set_option linter.unusedVariables false
set_option linter.unusedSimpArgs false
open Go.RowKit Go.Sort
def GvP (v : Value) (w : World) (e : Ending) (w' : World) : Prop := e = .returned v ∧ Gr w w'
set_option maxHeartbeats 2000000 in
set_option maxRecDepth 100000 in
theorem built_null (w : World) : Calls Tryz.prog 46 #[.agg #[.int .i64 1, .string ⟨#[]⟩, .string ⟨#[]⟩, .slice none 0 0, .slice none 0 0, .slice none 0 0]] w (GvP (.iface 90 (.agg #[])) w) := by
  go_enter Tryz.func46, Tryz.ntmps46
  go_wp2_with (first | (go_at_call 73; refine (new73 _).mono ?_; rintro e w2 ⟨rfl, g1⟩) | go_in)
  go_ret
  exact ⟨rfl, ((Gr.refl _).alloc _).trans g1⟩
set_option maxHeartbeats 2000000 in
set_option maxRecDepth 100000 in
theorem built_str (w : World) : Calls Tryz.prog 46 #[.agg #[.int .i64 4, .string ⟨#[]⟩, .string ⟨#[]⟩, .slice none 0 0, .slice none 0 0, .slice none 0 0]] w (GvP (.iface 93 (.agg #[])) w) := by
  go_enter Tryz.func46, Tryz.ntmps46
  go_wp2_with (first | (go_at_call 76; refine (new76 _).mono ?_; rintro e w2 ⟨rfl, g1⟩) | go_in)
  go_ret
  exact ⟨rfl, ((Gr.refl _).alloc _).trans g1⟩
set_option maxHeartbeats 2000000 in
set_option maxRecDepth 100000 in
theorem cmp_ns (w : World) : Calls Tryz.prog 48 #[.iface 90 (.agg #[]), .iface 93 (.agg #[])] w (GvP (.int .i64 (-1)) w) := by
  go_enter Tryz.func48, Tryz.ntmps48
  go_wp2
  go_ret
  exact ⟨rfl, Gr.refl _⟩
set_option maxHeartbeats 2000000 in
set_option maxRecDepth 100000 in
theorem icmp_ns (w : World) : Calls Tryz.prog 23 #[.agg #[.int .i64 1, .string ⟨#[]⟩, .string ⟨#[]⟩, .slice none 0 0, .slice none 0 0, .slice none 0 0], .agg #[.int .i64 4, .string ⟨#[]⟩, .string ⟨#[]⟩, .slice none 0 0, .slice none 0 0, .slice none 0 0]] w (GvP (.int .i64 (-1)) w) := by
  have hmix : Tryz.prog.follows .mixedOrders = true := by kernel_rfl
  have H1 := Lib.hid built_null
  have H2 := Lib.hid built_str
  have H3 := Lib.hid cmp_ns
  go_enter Tryz.func23, Tryz.ntmps23
  go_wp2
  have hc := al_old (o := .cells #[.int .i64 4, .string ⟨#[]⟩, .string ⟨#[]⟩, .slice none 0 0, .slice none 0 0, .slice none 0 0] 25) (al_new (w := w) (o := .cells #[.int .i64 1, .string ⟨#[]⟩, .string ⟨#[]⟩, .slice none 0 0, .slice none 0 0, .slice none 0 0] 25) rfl)
  have hc2 := al_new (w := w.alloc (.cells #[.int .i64 1, .string ⟨#[]⟩, .string ⟨#[]⟩, .slice none 0 0, .slice none 0 0, .slice none 0 0] 25)) (o := .cells #[.int .i64 4, .string ⟨#[]⟩, .string ⟨#[]⟩, .slice none 0 0, .slice none 0 0, .slice none 0 0] 25) (k := w.heap.size + 1) (by simp)
  have hg := ((Gr.refl w).alloc (.cells #[.int .i64 1, .string ⟨#[]⟩, .string ⟨#[]⟩, .slice none 0 0, .slice none 0 0, .slice none 0 0] 25)).alloc (.cells #[.int .i64 4, .string ⟨#[]⟩, .string ⟨#[]⟩, .slice none 0 0, .slice none 0 0, .slice none 0 0] 25)
  generalize ((w.alloc (.cells #[.int .i64 1, .string ⟨#[]⟩, .string ⟨#[]⟩, .slice none 0 0, .slice none 0 0, .slice none 0 0] 25)).alloc (.cells #[.int .i64 4, .string ⟨#[]⟩, .string ⟨#[]⟩, .slice none 0 0, .slice none 0 0, .slice none 0 0] 25)) = W at hc hc2 hg ⊢
  have HG := Lib.hid hg
  have d0 := fun n os => (gr_grow W n os).cell (cell_blk hc 0 rfl)
  have d1 := fun n os => (gr_grow W n os).cell (cell_blk hc 1 rfl)
  have d2 := fun n os => (gr_grow W n os).cell (cell_blk hc 2 rfl)
  have d3 := fun n os => (gr_grow W n os).cell (cell_blk hc 3 rfl)
  have d4 := fun n os => (gr_grow W n os).cell (cell_blk hc 4 rfl)
  have d5 := fun n os => (gr_grow W n os).cell (cell_blk hc 5 rfl)
  have f0 := fun n os => (gr_grow W n os).cell (cell_blk hc2 0 rfl)
  have f1 := fun n os => (gr_grow W n os).cell (cell_blk hc2 1 rfl)
  have f2 := fun n os => (gr_grow W n os).cell (cell_blk hc2 2 rfl)
  have f3 := fun n os => (gr_grow W n os).cell (cell_blk hc2 3 rfl)
  have f4 := fun n os => (gr_grow W n os).cell (cell_blk hc2 4 rfl)
  have f5 := fun n os => (gr_grow W n os).cell (cell_blk hc2 5 rfl)
  clear hc hc2 hg
  refine wp_region_quiet_grown hmix (by kernel_rfl) ?_
  repeat (go_big_quiet_step ((first | (go_at_call 46; first | with_reducible exact quiet_gr (v := .iface 90 (.agg #[])) (H1.out _) | with_reducible exact quiet_gr (v := .iface 93 (.agg #[])) (H2.out _)) | (go_at_call 48; with_reducible exact quiet_gr (v := .int .i64 (-1)) (H3.out _)))))
  refine wpQuiet_nil ?_
  intro _ hw'
  obtain ⟨⟨nq, osq⟩, hw''⟩ := hw'
  subst hw''
  go_wp2
  go_ret
  exact ⟨rfl, HG.out.trans (gr_grow _ _ _)⟩
def WkP (w : World) (e : Ending) (w' : World) : Prop := e = .returned (.bool true) ∧ Gr w w'
set_option maxHeartbeats 2000000 in
set_option maxRecDepth 100000 in
theorem works_any (w : World) : Calls Tryz.prog 17 #[] w (WkP w) := by
  go_enter Tryz.func17, Tryz.ntmps17
  go_wp2_with (go_at_call 23; refine (icmp_ns _).mono ?_; rintro e w2 ⟨rfl, g1⟩)
  go_ret
  exact ⟨rfl, g1⟩
end Go.Proofs.YtaglgokeejjagaaGreat
