/- 'TypeOf'. -/
import Derived.Test.YtaglgokeejjagaaGreatZmap
namespace Go.Proofs.YtaglgokeejjagaaGreat
set_option linter.unusedVariables false
set_option linter.unusedSimpArgs false
open Go.RowKit Go.Sort Go.Maps

theorem tyOf_eq (t : Vl) : tyOf t = if t.kind = 0 then .mk 1 [] [] [] else if t.kind = 1 ∨ t.kind = 2 then .mk 2 [] [] [] else if t.kind = 3 then .mk 3 [] [] [] else if t.kind = 4 then .mk 4 [] [] []
    else if t.kind = 5 then .mk 5 [] (t.kids.map tyOf) [] else .mk 6 (t.keys.map fun k => ⟨4, k⟩) (t.kids.map tyOf) [] := by
  cases t; rw [tyOf]; rfl

def NewP (w : World) (e : Ending) (w' : World) : Prop := e = .returned (.agg #[]) ∧ Gr w w'
set_option maxHeartbeats 1000000 in
set_option maxRecDepth 100000 in
theorem new73 (w : World) : Calls Tryz.prog 73 #[] w (NewP w) := by
  go_enter Tryz.func73, Tryz.ntmps73
  go_wp2
  refine bodyPost_ret (v := .agg #[]) (by simp [results, Tryz.results73, go_sem]) rfl ⟨rfl, ?_⟩
  repeat (first | exact Gr.refl _ | refine Gr.alloc ?_ _ | refine Gr.setCell ?_ (by simp) _)
set_option maxHeartbeats 1000000 in
set_option maxRecDepth 100000 in
theorem new74 (w : World) : Calls Tryz.prog 74 #[] w (NewP w) := by
  go_enter Tryz.func74, Tryz.ntmps74
  go_wp2
  refine bodyPost_ret (v := .agg #[]) (by simp [results, Tryz.results74, go_sem]) rfl ⟨rfl, ?_⟩
  repeat (first | exact Gr.refl _ | refine Gr.alloc ?_ _ | refine Gr.setCell ?_ (by simp) _)
set_option maxHeartbeats 1000000 in
set_option maxRecDepth 100000 in
theorem new75 (w : World) : Calls Tryz.prog 75 #[] w (NewP w) := by
  go_enter Tryz.func75, Tryz.ntmps75
  go_wp2
  refine bodyPost_ret (v := .agg #[]) (by simp [results, Tryz.results75, go_sem]) rfl ⟨rfl, ?_⟩
  repeat (first | exact Gr.refl _ | refine Gr.alloc ?_ _ | refine Gr.setCell ?_ (by simp) _)
set_option maxHeartbeats 1000000 in
set_option maxRecDepth 100000 in
theorem new76 (w : World) : Calls Tryz.prog 76 #[] w (NewP w) := by
  go_enter Tryz.func76, Tryz.ntmps76
  go_wp2
  refine bodyPost_ret (v := .agg #[]) (by simp [results, Tryz.results76, go_sem]) rfl ⟨rfl, ?_⟩
  repeat (first | exact Gr.refl _ | refine Gr.alloc ?_ _ | refine Gr.setCell ?_ (by simp) _)

set_option maxHeartbeats 2000000 in
set_option maxRecDepth 100000 in
theorem ty_0 {t : Vl} {w : World} (h : t.kind = 0) : Calls Tryz.prog 51 #[.nilIface] w (TyP t w) := by
  have HT := Lib.hid (show tyOf t = .mk 1 [] [] [] by rw [tyOf_eq, h]; rfl)
  clear h
  go_enter Tryz.func51, Tryz.ntmps51
  go_wp2_with (first | (go_at_call 73; refine (new73 _).mono ?_; rintro e w2 ⟨rfl, g⟩) | go_in)
  go_ret
  exact ⟨_, rfl, by rw [HT.out]; exact .null, g.below⟩
set_option maxHeartbeats 2000000 in
set_option maxRecDepth 100000 in
theorem ty_1 {t : Vl} {w : World} {b : Bool} (h : t.kind = 1 ∨ t.kind = 2) : Calls Tryz.prog 51 #[.iface 4 (.bool b)] w (TyP t w) := by
  have HT := Lib.hid (show tyOf t = .mk 2 [] [] [] by rw [tyOf_eq, if_neg (by omega), if_pos h])
  clear h
  go_enter Tryz.func51, Tryz.ntmps51
  go_wp2_with (first | (go_at_call 74; refine (new74 _).mono ?_; rintro e w2 ⟨rfl, g⟩) | go_in)
  go_ret
  exact ⟨_, rfl, by rw [HT.out]; exact .bool, g.below⟩
set_option maxHeartbeats 2000000 in
set_option maxRecDepth 100000 in
theorem ty_3 {t : Vl} {w : World} {x : ByteArray} (h : t.kind = 3) : Calls Tryz.prog 51 #[.iface 119 (.string x)] w (TyP t w) := by
  have HT := Lib.hid (show tyOf t = .mk 3 [] [] [] by rw [tyOf_eq, if_neg (by omega), if_neg (by omega), if_pos h])
  clear h
  go_enter Tryz.func51, Tryz.ntmps51
  go_wp2_with (first | (go_at_call 75; refine (new75 _).mono ?_; rintro e w2 ⟨rfl, g⟩) | go_in)
  go_ret
  exact ⟨_, rfl, by rw [HT.out]; exact .num, g.below⟩
set_option maxHeartbeats 2000000 in
set_option maxRecDepth 100000 in
theorem ty_4 {t : Vl} {w : World} {x : ByteArray} (h : t.kind = 4) : Calls Tryz.prog 51 #[.iface 9 (.string x)] w (TyP t w) := by
  have HT := Lib.hid (show tyOf t = .mk 4 [] [] [] by rw [tyOf_eq, if_neg (by omega), if_neg (by omega), if_neg (by omega), if_pos h])
  clear h
  go_enter Tryz.func51, Tryz.ntmps51
  go_wp2_with (first | (go_at_call 76; refine (new76 _).mono ?_; rintro e w2 ⟨rfl, g⟩) | go_in)
  go_ret
  exact ⟨_, rfl, by rw [HT.out]; exact .str, g.below⟩

theorem PV.less {t : Vl} (h : PV t) (k : t.kind = 6) : ∀ i (h : i + 1 < t.keys.length), Less (t.keys[i]'(Nat.lt_of_succ_lt h)) t.keys[i + 1] := by cases t; exact h.out.2.2.2.2.2.2.1 k
theorem PV.len {t : Vl} (h : PV t) (k : t.kind = 6) : t.keys.length = t.kids.length := by cases t; exact h.out.2.2.2.2.1 k

set_option maxHeartbeats 2000000 in
set_option maxRecDepth 100000 in
theorem ty_5 {t : Vl} {w : World} {h : Hp} {a : Option Addr} {c : Nat} {xs : List Value} (hk : t.kind = 5) (IH : Hid (∀ k ∈ t.kids, TyOk k)) (hp : PV t) (hw : WV t ≤ 5000)
    (lk : lenOk t.kids.length c) (r : HRow h a t.kids.length xs) (e : ∀ i (h1 : i < xs.length) (h2 : i < t.kids.length), RA h xs[i] t.kids[i]) (hh : HLe h (vwb 0 w none)) :
    Calls Tryz.prog 51 #[.iface 147 (.slice a t.kids.length c)] w (TyP t w) := by
  have HT := Lib.hid (show tyOf t = .mk 5 [] (t.kids.map tyOf) [] by rw [tyOf_eq, if_neg (by omega), if_neg (by omega), if_neg (by omega), if_neg (by omega), if_pos hk])
  have HC := Lib.hid (zzMap98 IH (fun i h => hp.kid h) (fun k h => Nat.le_trans (WV_kid h) hw) (Nat.le_trans (WV_kids t) hw) lk r e hh)
  clear hk hp hw lk r e hh
  go_enter Tryz.func51, Tryz.ntmps51
  go_wp2_with (first | (go_at_call 98; refine HC.out.mono ?_; rintro e w2 ⟨a', c', vs, rfl, lk, hl, hr, hv, hb⟩; have HL := Lib.hid lk; have HB := Lib.hid hb; have HLV := Lib.hid hl; clear lk hb hl) | (go_at_call 77; refine (nar_any _ _ _ _ (.inl rfl) _).mono ?_; rintro e w3 ⟨rfl, rfl⟩))
  go_ret
  refine ⟨_, rfl, ?_, HB.out.alloc HB.out.size _⟩
  rw [HT.out]
  show RT _ (.iface 94 (.pointer (some ⟨w2.heap.size, 0, none⟩))) _
  have hm : MLe (fr m0 w.heap.size w2 none) (fr m0 w.heap.size (w2.alloc (.cells #[.slice a' t.kids.length c', .nilIface] 151)) none) := fr_alloc _
  have hc : ∀ i (v : Value), (#[Value.slice a' t.kids.length c', .nilIface] : Array Value)[i]? = some v → fr m0 w.heap.size (w2.alloc (.cells #[.slice a' t.kids.length c', .nilIface] 151)) none ⟨w2.heap.size, i, none⟩ = some v := fun i v h => by
    unfold fr
    rw [if_pos HB.out.size, if_neg (by simp)]
    exact ucell_blk (al_new rfl) i h
  refine RT.arr (ds := []) (xs := vs) (c := c') (a := a') ?_ (hc 1 _ rfl) ?_ ?_ (hr.mono hm) ?_ rfl (by simp) (fun i h => absurd h (Nat.not_lt_zero _))
  · rw [List.length_map]; exact hc 0 _ rfl
  · rw [List.length_map]; exact HL.out
  · rw [List.length_map]; exact HLV.out
  · intro i h1 h2
    rw [List.getElem_map]
    exact (hv i h1 (by simpa using h2)).mono hm

/-- Two lists of properties in growing order that are one another's permutations are one. -/
theorem pr_unique : ∀ {l l' : List Pr}, l.Pairwise (fun a b => AK.lt a.1 b.1) → l'.Pairwise (fun a b => AK.lt a.1 b.1) → l.Perm l' → l = l'
  | [], l', _, _, h => (List.Perm.nil_eq h)
  | a :: r, [], _, _, h => by have := h.length_eq; simp at this
  | a :: r, b :: s, h1, h2, h => by
    obtain ⟨a1, a2⟩ := List.pairwise_cons.1 h1
    obtain ⟨b1, b2⟩ := List.pairwise_cons.1 h2
    have hab : a = b := by
      rcases List.mem_cons.1 (h.mem_iff.1 (List.mem_cons_self)) with e | ha
      · exact e
      · rcases List.mem_cons.1 (h.mem_iff.2 (List.mem_cons_self)) with e | hb
        · exact e.symm
        · exact absurd (AK.lt_trans (a1 b hb) (b1 a ha)) (AK.lt_irrefl _)
    subst hab
    rw [pr_unique a2 b2 (List.perm_cons _ |>.1 h)]
theorem perm_range {js : List Nat} {n : Nat} (h1 : js.Nodup) (h2 : ∀ j ∈ js, j < n) (h3 : ∀ j, j < n → j ∈ js) : js.Perm (List.range n) := by
  rw [List.perm_ext_iff_of_nodup h1 List.nodup_range]
  intro a
  rw [List.mem_range]
  exact ⟨h2 a, h3 a⟩
theorem key9_inv {key : Value} {kl : Lit} (h : keyOf Tryz.prog 9 key = some kl) : ∃ s, key = .string s ∧ kl = kL s := by
  obtain ⟨s, e1, e2, _⟩ := WideMaps.string_of_keyOf Tryz.underlying9 h
  exact ⟨s, e1, e2⟩

theorem Own.of_made {m : Mem} {B g n : Nat} {w : World} (h : w.ownsRow B 100 1 (.slice (some ⟨g, 0, none⟩) 0 n) 0 []) : Own ESP m 100 1 B w (.slice (some ⟨g, 0, none⟩) 0 n) [] := ⟨[], h, fun i hi => absurd hi (Nat.not_lt_zero _)⟩
theorem info100 : (Tryz.prog.info? 100).map (fun i => (i.zero, i.size, i.bytes)) = some (some (.pointer none), 1, 8) := by kernel_rfl
theorem gb_below {a b : World} (h : a.grownBy b none) : Below a.heap.size a b := ⟨h.os, h.tape, h.output, h.size, fun i hi => h.block i hi (by simp)⟩
theorem cells_new2 (w : World) (o : Obj) (l : List Value) (T : TypeId) : ∀ j u, l[j]? = some u → ((w.alloc o).alloc (.cells l.toArray T)).cell? ⟨w.heap.size + 1, j, none⟩ = some u := fun j u h => by
  have h2 := cells_new (w.alloc o) l T j u h
  simpa using h2
theorem fr_iter {m : Mem} {B r : Nat} {w w' : World} {ro : Option Nat} (hg : w.grownBy w' (some r)) (hi : ∃ b s se c, w.heap[r]? = some (.mapIter b s se c)) : MLe (fr m B w ro) (fr m B w' ro) := by
  obtain ⟨b, s, se, c, hi⟩ := hi
  intro a x h
  unfold fr at h ⊢
  split at h
  · rename_i h1
    split at h
    · cases h
    · rename_i h2
      rw [if_pos h1, if_neg h2]
      have hne : a.block ≠ r := fun e => by simp [ucell, e, hi] at h
      exact (ucell_of (hg.block a.block (ucell_lt h) (fun e => hne (Option.some.inj e)))).trans h
  · rename_i h1; rw [if_neg h1]; exact h
theorem Own.iter {α : Type} {E : Mem → List Value → α → Prop} {m : Mem} {e sz B r : Nat} {w w' : World} {v : Value} {l : List α} (h : Own E m e sz B w v l) (hE : EM E) (hg : w.grownBy w' (some r)) (hi : ∃ b s se c, w.heap[r]? = some (.mapIter b s se c)) : Own E m e sz B w' v l := by
  obtain ⟨xs, ho, hx⟩ := h
  refine ⟨xs, ⟨ho.1, ?_⟩, fun i h => hE _ _ _ _ (fr_iter hg hi) (hx i h)⟩
  rcases ho.2 with hn | ⟨g, cap, cur, rfl, hbg, hgg, rest⟩
  · exact .inl hn
  · refine .inr ⟨g, cap, cur, rfl, hbg, ?_, rest⟩
    rw [hg.block g (lt_blk hgg) (fun e => by obtain ⟨b, s, se, c, hi⟩ := hi; cases e; rw [hgg] at hi; cases hi)]
    exact hgg
theorem ranges_iter {w : World} {b r n : Nat} {D : DataW Value} {left : Lit → Bool} {cnt : Nat} (h : w.ranges Tryz.prog 9 RV b r n D left cnt) : ∃ b s se c, w.heap[r]? = some (.mapIter b s se c) := by
  obtain ⟨es, clock, since, seen, c0, _, _, _, _, hr, _⟩ := h
  exact ⟨_, _, _, _, hr⟩

/-- What the loop over the map has done: the entries js are behind it. -/
structure Done (ks : List ByteArray) (js : List Nat) (left : Lit → Bool) : Prop where
  nd : js.Nodup
  lt : ∀ j ∈ js, j < ks.length
  left : ∀ kl, left kl = true ↔ ∃ i, ∃ (h : i < ks.length), kl = kL ks[i] ∧ i ∉ js

theorem Done.start {D : DataW Value} {ks : List ByteArray} {xs : List Value} (h : MapIs D ks xs) : Done ks [] (Maps.has D) where
  nd := List.nodup_nil
  lt := fun j h => by cases h
  left := fun kl => ⟨fun hk => by obtain ⟨i, hi, e⟩ := h.2.1 kl hk; exact ⟨i, hi, e, by simp⟩, fun ⟨i, hi, e, _⟩ => by
    rw [e]; exact has_true_of_atKey (fun z => h.1 i hi (by rw [h.2.2.2]; exact hi) z)⟩
theorem Done.step {ks : List ByteArray} {js : List Nat} {left : Lit → Bool} (h : Done ks js left) (hd : ∀ i j (hi : i < ks.length) (hj : j < ks.length), ks[i] = ks[j] → i = j) {i : Nat} (hi : i < ks.length) (hj : i ∉ js) : Done ks (js ++ [i]) (fun z => left z && !z.sameKey (kL ks[i])) where
  nd := by
    rw [List.nodup_append]
    exact ⟨h.nd, by simp, fun a ha b hb => by simp at hb; subst hb; intro e; exact hj (e ▸ ha)⟩
  lt := fun j hj => by
    rcases List.mem_append.1 hj with h1 | h1
    · exact h.lt j h1
    · simp at h1; subst h1; exact hi
  left := fun kl => by
    constructor
    · intro hk
      simp only [Bool.and_eq_true, Bool.not_eq_true'] at hk
      obtain ⟨i', hi', e, hn⟩ := (h.left kl).1 hk.1
      refine ⟨i', hi', e, fun hm => ?_⟩
      rcases List.mem_append.1 hm with h1 | h1
      · exact hn h1
      · simp at h1; subst h1
        rw [e, WideAt.sameKey_self (kL_key _)] at hk
        cases hk.2
    · rintro ⟨i', hi', e, hn⟩
      simp only [Bool.and_eq_true, Bool.not_eq_true']
      refine ⟨(h.left kl).2 ⟨i', hi', e, fun hm => hn (List.mem_append_left _ hm)⟩, sameKey_ne fun e2 => hn ?_⟩
      rw [e] at e2
      have := hd i' i hi' hi (kL_inj e2)
      subst this; simp
theorem Done.all {ks : List ByteArray} {js : List Nat} {left : Lit → Bool} (h : Done ks js left) (hl : ∀ kl, left kl = false) : js.Perm (List.range ks.length) := perm_range h.nd h.lt fun j hj => by
  by_cases hm : j ∈ js
  · exact hm
  · have := (h.left (kL ks[j])).2 ⟨j, hj, rfl, hm⟩
    rw [hl] at this; cases this

theorem size_le {w : World} {b n : Nat} {D : DataW Value} (h : w.ownsMap Tryz.prog 9 RV b n D) : Maps.size D ≤ n := by
  obtain ⟨es, cl, _, _, hs, rfl⟩ := h
  rw [size_eq, length_sorted]; simpa using hs

theorem len_le : ∀ (n : Nat) (js : List Nat), js.Nodup → (∀ j ∈ js, j < n) → js.length ≤ n
  | 0, js, _, h => by
    cases js with
    | nil => simp
    | cons a r => exact absurd (h a List.mem_cons_self) (Nat.not_lt_zero _)
  | n + 1, js, hn, h => by
    by_cases hm : n ∈ js
    · have h1 := len_le n (js.erase n) (hn.erase n) (fun j hj => by
        have h2 := hn.mem_erase_iff.1 hj
        have := h j h2.2
        have := h2.1
        omega)
      rw [List.length_erase_of_mem hm] at h1
      omega
    · have h1 := len_le n js hn (fun j hj => by
        have := h j hj
        have : j ≠ n := fun e => hm (e ▸ hj)
        omega)
      omega
theorem Done.len {ks : List ByteArray} {js : List Nat} {left : Lit → Bool} (h : Done ks js left) : js.length ≤ ks.length := len_le _ _ h.nd h.lt
theorem AK.lt_tt {a b : ByteArray} : AK.lt (.text a) (.text b) ↔ Less a b := by
  rw [AK.lt_code, less_iff]
  simp only [AK.code, List.cons_lt_cons_iff]
  constructor
  · rintro (h | h)
    · exact absurd h (by decide)
    · exact h.2
  · exact fun h => .inr ⟨trivial, h⟩
theorem esp_new {w2 w3 : World} {Ty : Nat} {y : Value} {k : ByteArray} {ty : ST} {o : Obj} (hrt : RT (fr m0 w2.heap.size w3 none) (.iface Ty y) ty) (hs : w2.heap.size ≤ w3.heap.size) :
    ESP (fr m0 w2.heap.size ((w3.alloc (.cells #[(AK.text k).v, .iface Ty y] 103)).alloc o) none) [.pointer (some ⟨w3.heap.size, 0, none⟩)] (.text k, ty) := by
  have hc : ∀ i (v : Value), (#[(AK.text k).v, Value.iface Ty y] : Array Value)[i]? = some v → fr m0 w2.heap.size ((w3.alloc (.cells #[(AK.text k).v, .iface Ty y] 103)).alloc o) none ⟨w3.heap.size, i, none⟩ = some v := fun i v h => by
    unfold fr
    rw [if_pos hs, if_neg (by simp)]
    exact ucell_blk (al_old (al_new rfl)) i h
  exact ⟨_, _, rfl, hc 0 _ rfl, hc 1 _ rfl, (hrt.mono (fr_alloc _)).mono (fr_alloc _)⟩
theorem own_ne_iter {α : Type} {E : Mem → List Value → α → Prop} {m : Mem} {e sz B r : Nat} {w : World} {v : Value} {l : List α} (h : Own E m e sz B w v l) (hi : ∃ b s se c, w.heap[r]? = some (.mapIter b s se c)) : some r ≠ v.ownBlock := by
  obtain ⟨xs, ho, _⟩ := h
  obtain ⟨b, s, se, c, hi⟩ := hi
  rcases ho.2 with ⟨rfl, _⟩ | ⟨g, cap, cur, rfl, _, hg, _⟩
  · simp [Value.ownBlock]
  · intro e1
    have : r = g := by simpa [Value.ownBlock] using e1
    subst this
    rw [hi] at hg
    cases hg
theorem own_ne_low {α : Type} {E : Mem → List Value → α → Prop} {m : Mem} {e sz B b : Nat} {w : World} {v : Value} {l : List α} (h : Own E m e sz B w v l) (hb : b < B) : some b ≠ v.ownBlock := fun e => by
  have := (h.lt b e.symm).1; omega

instance : Inhabited Vl := ⟨.mk 0 ⟨#[]⟩ [] []⟩
/-- The property with a number. -/
def prOf (t : Vl) (i : Nat) : Pr := (.text (t.keys.getD i ⟨#[]⟩), tyOf (t.kids.getD i default))
theorem prOf_eq {t : Vl} {i : Nat} (h1 : i < t.keys.length) (h2 : i < t.kids.length) : prOf t i = (.text t.keys[i], tyOf t.kids[i]) := by unfold prOf; rw [getD_eq _ _ h1, getD_eq _ _ h2]
theorem prOf_sorted {t : Vl} (h : ∀ i (h : i + 1 < t.keys.length), Less (t.keys[i]'(Nat.lt_of_succ_lt h)) t.keys[i + 1]) : ((List.range t.keys.length).map (prOf t)).Pairwise (fun a b => AK.lt a.1 b.1) := by
  rw [List.pairwise_map, List.pairwise_iff_getElem]
  intro i j hi hj hij
  simp only [List.getElem_range]
  unfold prOf
  have hj' : j < t.keys.length := by simpa using hj
  rw [getD_eq _ _ (by omega : i < t.keys.length), getD_eq _ _ hj']
  exact AK.lt_tt.2 (chain_less h i j hij hj')
theorem prOf_apart {t : Vl} {js : List Nat} (hd : ∀ i j (hi : i < t.keys.length) (hj : j < t.keys.length), t.keys[i] = t.keys[j] → i = j) (hn : js.Nodup) (hl : ∀ j ∈ js, j < t.keys.length) : (js.map (prOf t)).Pairwise (fun a b => a.1 ≠ b.1) := by
  rw [List.pairwise_map]
  refine List.Pairwise.imp_of_mem ?_ hn
  intro i j hi hj hne e
  unfold prOf at e
  rw [getD_eq _ _ (hl i hi), getD_eq _ _ (hl j hj)] at e
  exact hne (hd i j (hl i hi) (hl j hj) (AK.text.inj e))
theorem prOf_keys (t : Vl) : ((List.range t.keys.length).map (prOf t)).map (fun x => kyOf x.1) = t.keys.map fun k => ⟨4, k⟩ := by
  refine List.ext_getElem (by simp) fun i h1 h2 => ?_
  have hi : i < t.keys.length := by simpa using h2
  simp only [List.getElem_map, List.getElem_range, prOf, getD_eq _ _ hi, kyOf]
theorem prOf_kids {t : Vl} (h : t.keys.length = t.kids.length) : ((List.range t.keys.length).map (prOf t)).map (·.2) = t.kids.map tyOf := by
  refine List.ext_getElem (by simp [h]) fun i h1 h2 => ?_
  have hi : i < t.kids.length := by simpa using h2
  simp only [List.getElem_map, List.getElem_range, prOf, getD_eq _ _ hi]

set_option maxHeartbeats 2000000 in
set_option maxRecDepth 100000 in
theorem ty_6 {t : Vl} {w : World} {h : Hp} {b : Nat} {xs : List Value} (hk : t.kind = 6) (IH : Hid (∀ k ∈ t.kids, TyOk k)) (hp : PV t) (hw : WV t ≤ 5000)
    (hm : MapH h b t.keys xs) (hl : xs.length = t.kids.length) (e : ∀ i (h1 : i < xs.length) (h2 : i < t.kids.length), RA h xs[i] t.kids[i]) (hh : HLe h (vwb 0 w none)) :
    Calls Tryz.prog 51 #[.iface 148 (.map (some b))] w (TyP t w) := by
  have HT := Lib.hid (show tyOf t = .mk 6 (t.keys.map fun k => ⟨4, k⟩) (t.kids.map tyOf) [] by rw [tyOf_eq, if_neg (by omega), if_neg (by omega), if_neg (by omega), if_neg (by omega), if_neg (by omega)])
  have HLEN := Lib.hid (Nat.le_trans (WV_keys t) hw)
  have HLESS := Lib.hid (hp.less hk)
  have HEQ := Lib.hid (hp.len hk)
  obtain ⟨D, hown, hmi⟩ := (hm.mono hh).owns
  have HM := Lib.hid hmi
  have HE := Lib.hid e
  have HL := Lib.hid hl
  have HH := Lib.hid hh
  have HP := Lib.hid hp
  have HW := Lib.hid hw
  clear hmi e hl hh hp hw hm hk
  obtain ⟨i0, hi0, hz0, hz1, hz2⟩ := info_parts info100
  have hsz := size_le hown
  have hbw : b < w.heap.size := hown.lt
  go_enter Tryz.func51, Tryz.ntmps51
  go_wp2_with (first | (at_len; refine wpList_len_own _ rfl _ 148 rfl 9 20 Tryz.underlying148 RV b 5000 D rfl hown ?_) | (at_make; refine wpList_make_own _ rfl _ _ 98 rfl w.heap.size 100 i0 (.pointer none) 1 Tryz.underlying98 hi0 hz0 hz1 .i64 .i64 _ (Maps.size D) rfl rfl rfl (by rw [hz2]; omega) (by simp [maxLen]; omega) (Nat.le_refl _) ?_; intro w1 hown1 hg1) | (at_range; refine wpList_range_own _ rfl _ 148 rfl 9 20 law9 Tryz.underlying148 RV b 5000 D rfl (hown.kept hg1 (by simp)) ?_; intro w0 hrg0 hg0 hs0))
  go_frame
  have hlt1 : w.heap.size < w1.heap.size := (hown1.lt w.heap.size rfl).2
  have HOW := Lib.hid hown1
  have HRG := Lib.hid hrg0
  have hg01 := Lib.hid (hg1.trans hg0)
  have HG0 := Lib.hid hg0
  have hs01 := hs0
  clear hown1 hrg0 hg1 hg0 hs0 hi0 hz0 hz1 hz2 hown
  have DIST := Lib.hid (show ∀ i j (hi : i < t.keys.length) (hj : j < t.keys.length), t.keys[i] = t.keys[j] → i = j from fun i j hi hj e => by
    have hc := chain_less (HLESS.out)
    rcases Nat.lt_trichotomy i j with h | h | h
    · exact absurd (e ▸ hc i j h hj) less_irrefl
    · exact h
    · exact absurd (e ▸ hc j i h hi) less_irrefl)
  go_loopw [8] (fun v wr => ∃ (left : Lit → Bool) (cnt : Nat) (js : List Nat), Hid (wr.ranges Tryz.prog 9 RV b w1.heap.size 5000 D left cnt ∧ Own ESP m0 100 1 w.heap.size wr v (js.map (prOf t)) ∧ Done t.keys js left ∧ Below w.heap.size w wr ∧ w1.heap.size < wr.heap.size)) (fun _ wr => wr.rangeLeft b w1.heap.size)
  case atStart =>
    refine ⟨_, _, [], HRG.out, ?_, Done.start HM.out, ?_, by omega⟩
    · exact (Own.of_made HOW.out).bl em_ESP (gb_below HG0.out)
    · exact (Below.refl _ _).grown hg01.out (Nat.le_refl _) (fun k e => by cases e)
  case round =>
    obtain ⟨left, cnt, js, hI⟩ := hrel
    go_wp2_with (at_next; refine wpList_next_ranges _ rfl _ rfl 9 law9 RV (fun s => .string s) (fun v => v) (fun key kl h => by obtain ⟨s, e, _⟩ := key9_inv h; exact ⟨s, e⟩) (fun v y _ => ⟨v, rfl⟩) b w1.heap.size 5000 D left cnt rfl hI.out.1 ?_ ?_)
    · intro h0 hall
      have HALL := Lib.hid (hI.out.2.2.1.all hall)
      clear hall
      go_wp2_with (go_at_call 82; refine (newObject_any (m := m0) (B := w.heap.size) (fun a x h => by cases h) (lo_m0 _) hI.out.2.1 (prOf_apart DIST.out hI.out.2.2.1.nd hI.out.2.2.1.lt) (by have := hI.out.2.2.1.len; have := HLEN.out; simp; omega)).mono ?_; rintro e w2 ⟨bo, l', rfl, hb1, hb2, hpm, hso, hown, hg⟩)
      go_ret
      refine ⟨_, rfl, ?_, bl_grown hI.out.2.2.2.1 hg (fun k e => (hI.out.2.1.lt k e).1)⟩
      rw [HT.out]
      have el : l' = (List.range t.keys.length).map (prOf t) := pr_unique hso (prOf_sorted HLESS.out) (hpm.trans (HALL.out.map _))
      have hob := hown.object hso (Nat.le_trans hI.out.2.2.2.1.size hb1) hb2
      rw [el, prOf_keys, prOf_kids HEQ.out] at hob
      exact hob
    · intro x c kl y pl w2 cnt' hkey hlk hv hat hrg hlt hg hs hen
      obtain ⟨s, e1, e2⟩ := key9_inv hkey
      cases e1
      obtain ⟨i, hi, e3, hin⟩ := (hI.out.2.2.1.left kl).1 hlk
      have ex : x = t.keys[i] := kL_inj (e2.symm.trans e3)
      have hix : i < xs.length := by have := HL.out; have := HEQ.out; omega
      have hik : i < t.kids.length := by have := HEQ.out; omega
      have ec : c = xs[i] := by
        have h1 := hat .nil
        rw [e3, HM.out.1 i hi hix .nil] at h1
        unfold RV at hv
        simp only [Option.some.injEq, Prod.mk.injEq] at hv
        rw [← hv.1] at h1
        cases h1; rfl
      subst ex ec
      rw [e2] at hrg
      have HRG2 := Lib.hid hrg
      have HG2 := Lib.hid hg
      have HS2 := Lib.hid hs
      have HITER := Lib.hid (ranges_iter hI.out.1)
      have HIN := Lib.hid (IH.out _ (List.getElem_mem hik))
      have HPk := Lib.hid (HP.out.kid hik)
      have HWk := Lib.hid (Nat.le_trans (WV_kid (List.getElem_mem hik)) HW.out)
      have HEk := Lib.hid (HE.out i hix hik)
      have HNOT := Lib.hid hin
      have hbl2 : Below w.heap.size w w2 := hI.out.2.2.2.1.grown hg hI.out.2.2.2.1.size (fun k e => by cases e; omega)
      have HBL2 := Lib.hid hbl2
      have HHk := Lib.hid (HH.out.bl hbl2)
      have HLT := Lib.hid hlt
      have hsz2 : w1.heap.size < w2.heap.size := by rw [hs]; exact hI.out.2.2.2.2
      have hpr := Lib.hid (prOf_eq hi hik)
      have HJL := Lib.hid (show js.length ≤ 5000 from Nat.le_trans hI.out.2.2.1.len HLEN.out)
      have HOWN2 := Lib.hid (hI.out.2.1.iter em_ESP hg HITER.out)
      clear hrg hg hs hlk hv hat hkey hin hbl2 e2 e3 hlt
      go_wp2_with (first | (go_at_call 51; refine (HIN.out _ h _ HPk.out HWk.out HEk.out HHk.out).mono ?_; rintro e w3 ⟨tv, rfl, hrt, hbl⟩; obtain ⟨Ty, yv, rfl⟩ := hrt.shape; have HRT := Lib.hid hrt; have HBL := Lib.hid hbl; clear hrt hbl) | (go_at_call 80; refine (nsp_any (.text t.keys[i]) Ty yv _).mono ?_; rintro e w4 ⟨rfl, rfl⟩) | (at_builtin; refine wpList_snoc em_ESP rfl _ _ _ rfl rfl _ _ rfl (y := (.text t.keys[i], tyOf t.kids[i])) (l := js.map (prOf t)) (B := w.heap.size) (m := m0) ⟨((HOWN2.out.bl em_ESP HBL.out).alloc em_ESP _).alloc em_ESP _, lo_m0 _, cells_new2 _ _ _ _, rfl, by simp [Value.oneCell'], ⟨w2.heap.size, esp_new HRT.out HBL.out.size, by omega, fun k' e => (HOWN2.out.lt k' e).2⟩, ⟨8, sl98, by have := HJL.out; simp; omega⟩, by have := HJL.out; simp [maxLen]; omega, by have := HBL.out.size; simp; omega⟩ ?_; intro g' cap w5 hown5 hg5 hv5 hgg))
      go_roundw
      case rel =>
        have ho5 := hown5
        rw [← hpr.out, show (js.map (prOf t)) ++ [prOf t i] = (js ++ [i]).map (prOf t) by simp] at ho5
        rw [List.length_map] at ho5
        have hs3 := HBL.out.size
        have hs5 := hg5.size
        simp at hs5
        refine ⟨_, cnt', js ++ [i], ((((HRG2.out.kept (bl_grownBy HBL.out) (by simp) (by simp)).alloc _).alloc _).kept hg5 (own_ne_low HOWN2.out hbw) (own_ne_iter HOWN2.out (ranges_iter HRG2.out))), ho5, hI.out.2.2.1.step DIST.out hi HNOT.out, ?_, by omega⟩
        exact bl_grown (bl_alloc (bl_alloc (bl_trans HBL2.out HBL.out) _) _) hg5 (fun k' e => hv5 k' e)
      case measure =>
        have hrn := ((((HRG2.out.kept (bl_grownBy HBL.out) (by simp) (by simp)).alloc (.cells #[(AK.text t.keys[i]).v, .iface Ty yv] 103)).alloc (.cells #[.pointer (some ⟨w3.heap.size, 0, none⟩)] 100)).kept hg5 (own_ne_low HOWN2.out hbw) (own_ne_iter HOWN2.out (ranges_iter HRG2.out)))
        rw [hrn.left_eq, hI.out.1.left_eq]
        exact HLT.out

theorem ty_n (n : Nat) : ∀ t, SizeOf.sizeOf t < n → TyOk t := by
  induction n with
  | zero => intro t h; exact absurd h (Nat.not_lt_zero _)
  | succ n ih =>
    intro t hn x h w hp hw hr hh
    have IH := Lib.hid (fun k (hk : k ∈ t.kids) => ih k (by have := Vl.lt_kid' (t := t) hk; omega))
    cases hr with
    | null k => exact ty_0 k
    | ff k => exact ty_1 (.inl k)
    | tt k => exact ty_1 (.inr k)
    | num k => exact ty_3 k
    | str k => exact ty_4 k
    | arr k lk r e => exact ty_5 k IH hp hw lk r e hh
    | obj k hm hl e => exact ty_6 k IH hp hw hm hl e hh
theorem ty_any (t : Vl) : TyOk t := ty_n _ t (Nat.lt_succ_self _)
end Go.Proofs.YtaglgokeejjagaaGreat
