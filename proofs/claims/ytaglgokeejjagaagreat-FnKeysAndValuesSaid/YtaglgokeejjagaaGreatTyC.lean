/- What makes types: properties, objects, arrays. -/
import Derived.Test.YtaglgokeejjagaaGreatTyB
namespace Go.Proofs.YtaglgokeejjagaaGreat
set_option linter.unusedVariables false
set_option linter.unusedSimpArgs false
open Go.RowKit Go.Sort Go.Shelf

theorem RT.shape {m : Mem} {v : Value} {t : ST} (r : RT m v t) : ∃ T y, v = .iface T y := by cases r <;> exact ⟨_, _, rfl⟩
theorem AK.shape (k : AK) : k.v = .nilIface ∨ ∃ T y, k.v = .iface T y := by cases k; exact .inl rfl; all_goals exact .inr ⟨_, _, rfl⟩

def NspP (k x : Value) (w : World) (e : Ending) (w' : World) : Prop := e = .returned (.pointer (some ⟨w.heap.size, 0, none⟩)) ∧ w' = w.alloc (.cells #[k, x] 103)
set_option maxHeartbeats 1000000 in
set_option maxRecDepth 100000 in
theorem nsp_any (k : AK) (T : Nat) (y : Value) (w : World) : Calls Tryz.prog 80 #[k.v, .iface T y] w (NspP k.v (.iface T y) w) := by
  rcases k.shape with h | ⟨T', y', h⟩
  all_goals
    rw [h]
    go_enter Tryz.func80, Tryz.ntmps80
    go_wp2
    go_ret
    exact ⟨rfl, rfl⟩

def NarP (v x : Value) (w : World) (e : Ending) (w' : World) : Prop := e = .returned (.pointer (some ⟨w.heap.size, 0, none⟩)) ∧ w' = w.alloc (.cells #[v, x] 151)
set_option maxHeartbeats 1000000 in
set_option maxRecDepth 100000 in
theorem nar_any (a : Option Addr) (n c : Nat) (x : Value) (hx : x = .nilIface ∨ ∃ T y, x = .iface T y) (w : World) : Calls Tryz.prog 77 #[.slice a n c, x] w (NarP (.slice a n c) x w) := by
  rcases hx with rfl | ⟨T', y', rfl⟩
  all_goals
    go_enter Tryz.func77, Tryz.ntmps77
    go_wp2
    go_ret
    exact ⟨rfl, rfl⟩

def ZsP (m : Mem) (B : Nat) (w : World) (v : Value) (l : List Pr) (e : Ending) (w' : World) : Prop :=
  ∃ l' : List Pr, e = .returned v ∧ l'.Perm l ∧ l'.Pairwise (fun a b => AK.lt a.1 b.1) ∧ Own ESP m 100 1 B w' v l' ∧ w.grownBy w' v.ownBlock
set_option maxHeartbeats 1000000 in
set_option maxRecDepth 100000 in
theorem zzSorted108 {m : Mem} {B : Nat} {w : World} {v : Value} {l : List Pr} (hm : MLe m w.cell?) (hl : Lo m B) (h : Own ESP m 100 1 B w v l) (hne : l.Pairwise (fun a b => a.1 ≠ b.1)) (hn : l.length < 1000000) :
    Calls Tryz.prog 108 #[v, .func (.func 109) #[] #[]] w (ZsP m B w v l) := by
  obtain ⟨a, n, c, rfl⟩ : ∃ a n c, v = .slice a n c := by
    obtain ⟨xs, ho, _⟩ := h
    rcases ho.2 with ⟨rfl, _⟩ | ⟨g, cap, cur, rfl, _⟩ <;> exact ⟨_, _, _, rfl⟩
  have HC := Lib.hid (sort117 hm hl h hne hn)
  clear h hne hm
  go_enter Tryz.func108, Tryz.ntmps108
  go_wp2_with (go_at_call 117; refine HC.out.mono ?_; rintro e w2 ⟨l', rfl, h1, h2, h3, h4⟩)
  go_ret
  exact ⟨l', rfl, h1, h2, h3, h4⟩

def NobP (m : Mem) (B : Nat) (w : World) (v dv : Value) (l : List Pr) (e : Ending) (w' : World) : Prop :=
  ∃ (b : Nat) (l' : List Pr), e = .returned (.pointer (some ⟨b, 0, none⟩)) ∧ w.heap.size ≤ b ∧ w'.heap[b]? = some (.cells #[v, dv] 154 (0, 0)) ∧ l'.Perm l ∧ l'.Pairwise (fun a b => AK.lt a.1 b.1) ∧ Own ESP m 100 1 B w' v l' ∧ w.grownBy w' v.ownBlock
set_option maxHeartbeats 1000000 in
set_option maxRecDepth 100000 in
theorem newObject_any {m : Mem} {B : Nat} {w : World} {v : Value} {l : List Pr} {d : Option Addr} (hm : MLe m w.cell?) (hl : Lo m B) (h : Own ESP m 100 1 B w v l) (hne : l.Pairwise (fun a b => a.1 ≠ b.1)) (hn : l.length < 1000000) :
    Calls Tryz.prog 82 #[v, .pointer d] w (NobP m B w v (.pointer d) l) := by
  obtain ⟨a, n, c, rfl⟩ : ∃ a n c, v = .slice a n c := by
    obtain ⟨xs, ho, _⟩ := h
    rcases ho.2 with ⟨rfl, _⟩ | ⟨g, cap, cur, rfl, _⟩ <;> exact ⟨_, _, _, rfl⟩
  have HC := Lib.hid (zzSorted108 hm hl h hne hn)
  clear h hne hm
  go_enter Tryz.func82, Tryz.ntmps82
  go_wp2_with (go_at_call 108; refine HC.out.mono ?_; rintro e w2 ⟨l', rfl, h1, h2, h3, h4⟩)
  go_ret
  exact ⟨_, l', rfl, h4.size, al_new rfl, h1, h2, h3.alloc em_ESP _, h4.trans (World.grownBy_alloc _ _ _)⟩

theorem ex_list {α : Type} (n : Nat) (P : Nat → α → Prop) (h : ∀ i, i < n → ∃ x, P i x) : ∃ l : List α, l.length = n ∧ ∀ i (hi : i < l.length), P i l[i] := by
  induction n with
  | zero => exact ⟨[], rfl, fun i hi => absurd hi (Nat.not_lt_zero _)⟩
  | succ n ih =>
    obtain ⟨l, hl, hp⟩ := ih (fun i hi => h i (by omega))
    obtain ⟨x, hx⟩ := h n (by omega)
    refine ⟨l ++ [x], by simp [hl], fun i hi => ?_⟩
    by_cases e : i < l.length
    · rw [List.getElem_append_left e]; exact hp i e
    · obtain rfl : i = l.length := by simp at hi; omega
      simp only [List.getElem_concat_length]
      rw [hl]; exact hx

theorem rowX_of {m : Mem} {a : Option Addr} {n : Nat} {f : Nat → List Value} (h : Row m 1 a n f) {xs : List Value} (hx : xs.length = n) (he : ∀ i (hi : i < xs.length), f i = [xs[i]]) : RowX m a xs := by
  intro hn
  obtain ⟨b, off, e, hc⟩ := h (by omega)
  refine ⟨b, off, e, fun i hi j u hu => hc i (by omega) j u ?_⟩
  rw [he i hi]
  change [xs.getD i default][j]? = some u at hu
  rw [getD_eq _ _ hi] at hu
  exact hu

/-- The types of a row that the call owns. -/
theorem Own.types {m : Mem} {e B : Nat} {w : World} {v : Value} {l : List ST} (h : Own ET m e 1 B w v l) : ∃ a c xs, v = .slice a l.length c ∧ lenOk l.length c ∧ xs.length = l.length ∧ RowX (fr m B w none) a xs ∧ ∀ i (h1 : i < xs.length) (h2 : i < l.length), RT (fr m B w none) xs[i] l[i] := by
  obtain ⟨a, c, f, rfl, h1, h2, hr, hx⟩ := h.row em_ET
  obtain ⟨xs, hl, hp⟩ := ex_list l.length (fun i x => f i = [x] ∧ ∀ (h : i < l.length), RT (fr m B w none) x l[i]) (fun i hi => by obtain ⟨v, e1, e2⟩ := hx i hi; exact ⟨v, e1, fun _ => e2⟩)
  exact ⟨a, c, xs, rfl, ⟨h1, Nat.le_trans h2 (by simp [maxLen])⟩, hl, rowX_of hr hl (fun i hi => (hp i hi).1), fun i h1 h2 => (hp i h1).2 h2⟩

theorem Own.object {m : Mem} {B b : Nat} {w : World} {v : Value} {l : List Pr} (h : Own ESP m 100 1 B w v l) (so : l.Pairwise (fun a b => AK.lt a.1 b.1)) (hB : B ≤ b) (hb : w.heap[b]? = some (.cells #[v, .pointer none] 154 (0, 0))) :
    RT (fr m B w none) (.iface 80 (.pointer (some ⟨b, 0, none⟩))) (.mk 6 (l.map fun x => kyOf x.1) (l.map (·.2)) []) := by
  obtain ⟨a, c, f, rfl, h1, h2, hr, hx⟩ := h.row em_ESP
  obtain ⟨pxs, hl, hp⟩ := ex_list l.length (fun i (x : Nat × Value) => f i = [.pointer (some ⟨x.1, 0, none⟩)] ∧ ∀ (h : i < l.length), fr m B w none ⟨x.1, 0, none⟩ = some l[i].1.v ∧ fr m B w none ⟨x.1, 1, none⟩ = some x.2 ∧ RT (fr m B w none) x.2 l[i].2)
    (fun i hi => by obtain ⟨p, tv, e1, e2, e3, e4⟩ := hx i hi; exact ⟨(p, tv), e1, fun _ => ⟨e2, e3, e4⟩⟩)
  have hfr : ∀ (a : Addr) v, B ≤ a.block → ucell w a = some v → fr m B w none a = some v := fun a v h1 h2 => by unfold fr; rw [if_pos h1, if_neg (by simp)]; exact h2
  have e0 : (l.map fun x => kyOf x.1) = (l.map (·.1)).map kyOf := by simp
  rw [e0]
  refine RT.obj (kids := l.map (·.2)) (ps := pxs.map (·.1)) (xs := pxs.map (·.2)) (ks := l.map (·.1)) (dv := .pointer none) (ds := []) (a := a) (c := c) ?_ (hfr _ _ hB (ucell_blk hb 1 rfl)) ?_ (by simp [hl]) (by simp [hl]) (by simp) ?_ ?_ ?_ ?_ ?_ (.inl ⟨rfl, rfl⟩) (fun i h => absurd h (Nat.not_lt_zero _))
  · rw [List.length_map]; exact hfr _ _ hB (ucell_blk hb 0 rfl)
  · rw [List.length_map]; exact ⟨h1, Nat.le_trans h2 (by simp [maxLen])⟩
  · refine rowX_of hr (by simp [hl]) (fun i hi => ?_)
    have hi' : i < pxs.length := by simpa using hi
    simpa using (hp i hi').1
  · intro i h1 h2
    have hi' : i < pxs.length := by simpa using h1
    simpa using ((hp i hi').2 (by omega)).1
  · intro i h1 h2
    have hi' : i < pxs.length := by simpa using h1
    simpa using ((hp i hi').2 (by omega)).2.1
  · intro i h1 h2
    have hi' : i < pxs.length := by simpa using h1
    simpa using ((hp i hi').2 (by omega)).2.2
  · rw [List.pairwise_map]; exact so
end Go.Proofs.YtaglgokeejjagaaGreat
