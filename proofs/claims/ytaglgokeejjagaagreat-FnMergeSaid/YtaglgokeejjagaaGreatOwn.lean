/- Rows that a call makes and appends to, whose elements lie in memory of their own; the frame of a call that writes some blocks of its own. -/
import Derived.Test.YtaglgokeejjagaaGreatBase
import Derived.Deep.AppendLies
import Derived.Deep.RegionHeld3
/- Weights of types and values, and what becomes of a type as it is copied: plain Lean. -/
namespace Go.Proofs.YtaglgokeejjagaaGreat
variable {α : Type}

theorem Vl.lt_kid {kd : Int} {tx : ByteArray} {ks : List ByteArray} {kids : List Vl} {k : Vl} (h : k ∈ kids) : SizeOf.sizeOf k < SizeOf.sizeOf (Vl.mk kd tx ks kids) := by
  have := List.sizeOf_lt_of_mem h
  simp only [Vl.mk.sizeOf_spec]; omega
theorem ST.lt_kid {kd : Int} {ks : List Ky} {kids more : List ST} {k : ST} (h : k ∈ kids) : SizeOf.sizeOf k < SizeOf.sizeOf (ST.mk kd ks kids more) := by
  have := List.sizeOf_lt_of_mem h
  simp only [ST.mk.sizeOf_spec]; omega
theorem ST.lt_more {kd : Int} {ks : List Ky} {kids more : List ST} {k : ST} (h : k ∈ more) : SizeOf.sizeOf k < SizeOf.sizeOf (ST.mk kd ks kids more) := by
  have := List.sizeOf_lt_of_mem h
  simp only [ST.mk.sizeOf_spec]; omega
theorem IT.lt_kid {kd : Int} {nm tx : ByteArray} {ks : List Ky} {kids more : List IT} {k : IT} (h : k ∈ kids) : SizeOf.sizeOf k < SizeOf.sizeOf (IT.mk kd nm tx ks kids more) := by
  have := List.sizeOf_lt_of_mem h
  simp only [IT.mk.sizeOf_spec]; omega
theorem IT.lt_more {kd : Int} {nm tx : ByteArray} {ks : List Ky} {kids more : List IT} {k : IT} (h : k ∈ more) : SizeOf.sizeOf k < SizeOf.sizeOf (IT.mk kd nm tx ks kids more) := by
  have := List.sizeOf_lt_of_mem h
  simp only [IT.mk.sizeOf_spec]; omega

theorem Vl.lt_kid' {t k : Vl} (h : k ∈ t.kids) : SizeOf.sizeOf k < SizeOf.sizeOf t := by cases t; exact Vl.lt_kid h
theorem ST.lt_kid' {t k : ST} (h : k ∈ t.kids) : SizeOf.sizeOf k < SizeOf.sizeOf t := by cases t; exact ST.lt_kid h
theorem ST.lt_more' {t k : ST} (h : k ∈ t.more) : SizeOf.sizeOf k < SizeOf.sizeOf t := by cases t; exact ST.lt_more h
theorem IT.lt_kid' {t k : IT} (h : k ∈ t.kids) : SizeOf.sizeOf k < SizeOf.sizeOf t := by cases t; exact IT.lt_kid h
theorem IT.lt_more' {t k : IT} (h : k ∈ t.more) : SizeOf.sizeOf k < SizeOf.sizeOf t := by cases t; exact IT.lt_more h

/-- What there is in a value: itself, its letters, its keys and their letters, and what is in its kids. -/
def WV : Vl → Nat
  | .mk _ tx ks kids => 1 + tx.size + ks.length + (ks.map ByteArray.size).sum + (kids.map WV).sum
termination_by t => SizeOf.sizeOf t
decreasing_by exact Vl.lt_kid (by assumption)

/-- What there is in a type. -/
def WI : IT → Nat
  | .mk _ _ _ ks kids more => 1 + ks.length + (ks.map fun k => k.text.size).sum + (kids.map WI).sum + (more.map WI).sum
termination_by t => SizeOf.sizeOf t
decreasing_by
  · exact IT.lt_kid (by assumption)
  · exact IT.lt_more (by assumption)

/-- What there is in a type of the reference. -/
def WS : ST → Nat
  | .mk _ ks kids more => 1 + ks.length + (ks.map fun k => k.text.size).sum + (kids.map WS).sum + (more.map WS).sum
termination_by t => SizeOf.sizeOf t
decreasing_by
  · exact ST.lt_kid (by assumption)
  · exact ST.lt_more (by assumption)

/-- A type without its name and text. -/
def toS : IT → ST
  | .mk kd _ _ ks kids more => .mk kd ks (kids.map toS) (more.map toS)
termination_by t => SizeOf.sizeOf t
decreasing_by
  · exact IT.lt_kid (by assumption)
  · exact IT.lt_more (by assumption)

theorem WV_pos (t : Vl) : 1 ≤ WV t := by cases t; rw [WV]; omega
theorem WI_pos (t : IT) : 1 ≤ WI t := by cases t; rw [WI]; omega
theorem WS_pos (t : ST) : 1 ≤ WS t := by cases t; rw [WS]; omega

theorem sum_ge (f : α → Nat) (h : ∀ x, 1 ≤ f x) (l : List α) : l.length ≤ (l.map f).sum := by
  induction l with
  | nil => simp
  | cons a r ih => simp only [List.length_cons, List.map_cons, List.sum_cons]; have := h a; omega
theorem le_sum (f : α → Nat) {l : List α} {x : α} (h : x ∈ l) : f x ≤ (l.map f).sum := by
  induction l with
  | nil => cases h
  | cons a r ih =>
    simp only [List.map_cons, List.sum_cons]
    rcases List.mem_cons.1 h with rfl | h
    · omega
    · have := ih h; omega

theorem WV_kid {t k : Vl} (h : k ∈ t.kids) : WV k ≤ WV t := by
  obtain ⟨kd, tx, ks, kids⟩ := t
  have := le_sum WV (show k ∈ kids from h)
  rw [WV.eq_def (.mk kd tx ks kids)]; simp only; omega
theorem WV_kids (t : Vl) : t.kids.length ≤ WV t := by
  obtain ⟨kd, tx, ks, kids⟩ := t
  have := sum_ge WV WV_pos kids
  rw [WV]; simp only [Vl.kids]; omega
theorem WI_kid {t k : IT} (h : k ∈ t.kids) : WI k ≤ WI t := by
  obtain ⟨kd, nm, tx, ks, kids, more⟩ := t
  have := le_sum WI (show k ∈ kids from h)
  rw [WI.eq_def (.mk kd nm tx ks kids more)]; simp only; omega
theorem WI_more {t k : IT} (h : k ∈ t.more) : WI k ≤ WI t := by
  obtain ⟨kd, nm, tx, ks, kids, more⟩ := t
  have := le_sum WI (show k ∈ more from h)
  rw [WI.eq_def (.mk kd nm tx ks kids more)]; simp only; omega
theorem WI_lens (t : IT) : t.keys.length ≤ WI t ∧ t.kids.length ≤ WI t ∧ t.more.length ≤ WI t := by
  obtain ⟨kd, nm, tx, ks, kids, more⟩ := t
  have := sum_ge WI WI_pos kids
  have := sum_ge WI WI_pos more
  rw [WI]; simp only [IT.keys, IT.kids, IT.more]; omega
theorem WS_toS (t : IT) : WS (toS t) = WI t := by
  obtain ⟨kd, nm, tx, ks, kids, more⟩ := t
  rw [toS, WI, WS]
  have h1 : ∀ k ∈ kids, WS (toS k) = WI k := fun k _ => WS_toS k
  have h2 : ∀ k ∈ more, WS (toS k) = WI k := fun k _ => WS_toS k
  simp only [List.map_map]
  rw [show (kids.map (WS ∘ toS)) = kids.map WI from List.map_congr_left h1, show (more.map (WS ∘ toS)) = more.map WI from List.map_congr_left h2]
termination_by SizeOf.sizeOf t
decreasing_by
  · exact IT.lt_kid (by assumption)
  · exact IT.lt_more (by assumption)

/-- No text and no list of a value is longer than memory may be. -/
inductive BdV : Vl → Prop
  | mk {kd : Int} {tx : ByteArray} {ks : List ByteArray} {kids : List Vl} (h1 : tx.size ≤ 140737488351232) (h2 : ks.length ≤ 140737488351232) (h3 : ∀ k ∈ ks, k.size ≤ 140737488351232)
      (h4 : kids.length ≤ 140737488351232) (h5 : ∀ k ∈ kids, BdV k) : BdV (.mk kd tx ks kids)
inductive BdI : IT → Prop
  | mk {kd : Int} {nm tx : ByteArray} {ks : List Ky} {kids more : List IT} (h0 : nm.size ≤ 140737488351232) (h1 : tx.size ≤ 140737488351232) (h2 : ks.length ≤ 140737488351232) (h3 : ∀ k ∈ ks, k.text.size ≤ 140737488351232)
      (h4 : kids.length ≤ 140737488351232) (h5 : ∀ k ∈ kids, BdI k) (h6 : more.length ≤ 140737488351232) (h7 : ∀ k ∈ more, BdI k) : BdI (.mk kd nm tx ks kids more)
theorem BdV.out {t : Vl} (h : BdV t) : t.text.size ≤ 140737488351232 ∧ t.keys.length ≤ 140737488351232 ∧ (∀ k ∈ t.keys, k.size ≤ 140737488351232) ∧ t.kids.length ≤ 140737488351232 ∧ ∀ k ∈ t.kids, BdV k := by
  cases h with | mk h1 h2 h3 h4 h5 => exact ⟨h1, h2, h3, h4, h5⟩
theorem BdI.out {t : IT} (h : BdI t) : t.name.size ≤ 140737488351232 ∧ t.text.size ≤ 140737488351232 ∧ t.keys.length ≤ 140737488351232 ∧ (∀ k ∈ t.keys, k.text.size ≤ 140737488351232) ∧ t.kids.length ≤ 140737488351232 ∧ (∀ k ∈ t.kids, BdI k) ∧
    t.more.length ≤ 140737488351232 ∧ ∀ k ∈ t.more, BdI k := by
  cases h with | mk h0 h1 h2 h3 h4 h5 h6 h7 => exact ⟨h0, h1, h2, h3, h4, h5, h6, h7⟩

/-- What is left of L behind W: exactly that, or less than nothing where W is more than L. -/
def Sp (W : Nat) (L L' : Int) : Prop := (0 ≤ L' ∧ L' = L - W) ∨ (L' < 0 ∧ -1125899906842624 ≤ L' ∧ L < W)

/-- .. on the way: Wk of W is taken off. -/
def SpI (Wk W : Nat) (L L' : Int) : Prop := (0 ≤ L' ∧ L' = L - Wk) ∨ (L' < 0 ∧ -1125899906842624 ≤ L' ∧ L < W)
theorem SpI.bd {Wk W : Nat} {L L' : Int} (h : SpI Wk W L L') (hL : L ≤ 1000000) : -1125899906842624 ≤ L' ∧ L' ≤ 1000000 := by
  rcases h with ⟨h1, h2⟩ | ⟨h1, h2, h3⟩ <;> omega
theorem SpI.neg {Wk Wk' W : Nat} {L L' : Int} (h : SpI Wk W L L') (hn : L' < 0) : SpI Wk' W L L' := by
  rcases h with ⟨h1, h2⟩ | h
  · omega
  · exact .inr h
/-- x more is taken off. -/
theorem SpI.step {Wk W x : Nat} {L L' : Int} (h : SpI Wk W L L') (h0 : 0 ≤ L') (hx : x ≤ 562949953421312) (hW : Wk + x ≤ W) : SpI (Wk + x) W L (L' - x) := by
  rcases h with ⟨h1, h2⟩ | h
  · by_cases h3 : 0 ≤ L' - x
    · exact .inl ⟨h3, by omega⟩
    · exact .inr ⟨by omega, by omega, by omega⟩
  · omega
/-- A part takes its own off. -/
theorem SpI.part {Wk W x : Nat} {L L' L'' : Int} (h : SpI Wk W L L') (h0 : 0 ≤ L') (hs : Sp x L' L'') (hW : Wk + x ≤ W) : SpI (Wk + x) W L L'' := by
  rcases h with ⟨h1, h2⟩ | h
  · rcases hs with ⟨h3, h4⟩ | ⟨h3, h4, h5⟩
    · exact .inl ⟨h3, by omega⟩
    · exact .inr ⟨h3, h4, by omega⟩
  · omega

theorem sum_take_succ (f : α → Nat) (l : List α) (k : Nat) (h : k < l.length) : ((l.take (k + 1)).map f).sum = ((l.take k).map f).sum + f l[k] := by
  rw [List.take_succ_eq_append_getElem h, List.map_append, List.sum_append, List.map_cons, List.map_nil, List.sum_cons, List.sum_nil, Nat.add_zero]
theorem sum_take_le (f : α → Nat) (l : List α) (k : Nat) : ((l.take k).map f).sum ≤ (l.map f).sum := by
  conv => rhs; rw [← List.take_append_drop k l]
  rw [List.map_append, List.sum_append]; omega
theorem WV_eq (t : Vl) : WV t = 1 + t.text.size + t.keys.length + (t.keys.map ByteArray.size).sum + (t.kids.map WV).sum := by cases t; rw [WV]; rfl
theorem WI_eq (t : IT) : WI t = 1 + t.keys.length + (t.keys.map fun k => k.text.size).sum + (t.kids.map WI).sum + (t.more.map WI).sum := by cases t; rw [WI]; rfl
theorem WS_eq (t : ST) : WS t = 1 + t.keys.length + (t.keys.map fun k => k.text.size).sum + (t.kids.map WS).sum + (t.more.map WS).sum := by cases t; rw [WS]; rfl

end Go.Proofs.YtaglgokeejjagaaGreat
namespace Go.Proofs.YtaglgokeejjagaaGreat
open Go.RowKit Go.Sort

/-! ### The frame, but for some blocks -/
/-- w' is w but for the blocks in S, and new blocks. -/
structure Kp (S : Nat → Prop) (w w' : World) : Prop where
  os : w'.os = w.os
  tape : w'.tape = w.tape
  output : w'.output = w.output
  size : w.heap.size ≤ w'.heap.size
  block : ∀ k, k < w.heap.size → ¬ S k → w'.heap[k]? = w.heap[k]?

section
variable {S : Nat → Prop} {a b c : World}
theorem Kp.refl (S : Nat → Prop) (w : World) : Kp S w w := ⟨rfl, rfl, rfl, Nat.le_refl _, fun _ _ _ => rfl⟩
theorem Kp.trans (h : Kp S a b) (k : Kp S b c) : Kp S a c :=
  ⟨k.os.trans h.os, k.tape.trans h.tape, k.output.trans h.output, Nat.le_trans h.size k.size, fun i hi hs => (k.block i (Nat.lt_of_lt_of_le hi h.size) hs).trans (h.block i hi hs)⟩
theorem Kp.then (h : Kp S a b) (k : Below b.heap.size b c) : Kp S a c :=
  h.trans ⟨k.os, k.tape, k.output, k.size, fun i hi _ => k.block i hi⟩
theorem Kp.alloc (h : Kp S a b) (o : Obj) : Kp S a (b.alloc o) := h.then ((Below.refl _ _).alloc (Nat.le_refl _) o)
theorem Kp.drew (h : Kp S a b) : Kp S a b.drew := h.then (Below.refl _ _).drew
theorem Kp.setCell (h : Kp S a b) {p : Addr} (hp : S p.block ∨ a.heap.size ≤ p.block) (v : Value) : Kp S a (b.setCell p v) :=
  ⟨h.os, h.tape, h.output, by simpa [World.setCell] using h.size, fun i hi hn => by
    rw [Below.heap_setCell _ _ _ _ (by rintro rfl; rcases hp with hp | hp; exact hn hp; exact absurd hi (by omega))]
    exact h.block i hi hn⟩
theorem Kp.grown (h : Kp S a b) {r : Option Nat} (hg : b.grownBy c r) (hr : ∀ k, r = some k → S k ∨ a.heap.size ≤ k) : Kp S a c :=
  ⟨hg.os.trans h.os, hg.tape.trans h.tape, hg.output.trans h.output, Nat.le_trans h.size hg.size, fun i hi hn => by
    rw [hg.block i (Nat.lt_of_lt_of_le hi h.size) (fun e => by rcases hr i e.symm with h1 | h1; exact hn h1; exact absurd hi (by omega))]
    exact h.block i hi hn⟩
theorem Kp.cell (h : Kp S a b) {p : Addr} {v : Value} (hc : a.cell? p = some v) (hp : ¬ S p.block) : b.cell? p = some v :=
  (World.cell?_of_block (h.block p.block (World.block_lt_of_cell? a p hc) hp)).trans hc
theorem Kp.heap (h : Kp S a b) {k : Nat} {o : Obj} (hc : a.heap[k]? = some o) (hp : ¬ S k) : b.heap[k]? = some o :=
  (h.block k (Array.getElem?_eq_some_iff.1 hc).1 hp).trans hc
end

theorem bl_trans {a b c : World} (h : Below a.heap.size a b) (k : Below b.heap.size b c) : Below a.heap.size a c :=
  h.trans (k.mono h.size)
theorem bl_heap {a b : World} (h : Below a.heap.size a b) {k : Nat} {o : Obj} (hc : a.heap[k]? = some o) : b.heap[k]? = some o :=
  (h.block k (Array.getElem?_eq_some_iff.1 hc).1).trans hc

/-! ### Old memory and what lies from B on -/
/-- Nothing of m lies from B on. -/
def Lo (m : Mem) (B : Nat) : Prop := ∀ a x, m a = some x → a.block < B
theorem Lo.mono {m : Mem} {B B' : Nat} (h : Lo m B) (hB : B ≤ B') : Lo m B' := fun a x e => Nat.lt_of_lt_of_le (h a x e) hB
theorem lo_of_mle {m : Mem} {w : World} (h : MLe m w.cell?) : Lo m w.heap.size := fun a _ e => World.block_lt_of_cell? w a (h _ _ e)

/-! Cells of blocks that bear no mark (no part of them is a string's). -/
def ucell (w : World) : Mem := fun a => match w.heap[a.block]? with
  | some (.cells c _ (0, 0)) => if a.spot.isSome then none else c[a.off]?
  | _ => none
theorem ucell_le {w : World} : MLe (ucell w) w.cell? := by
  intro a x h
  unfold ucell at h
  unfold World.cell?
  split at h
  · rename_i hb; rw [hb]; exact h
  · cases h
theorem ucell_of {w w' : World} {a : Addr} (h : w'.heap[a.block]? = w.heap[a.block]?) : ucell w' a = ucell w a := by unfold ucell; rw [h]
theorem ucell_lt {w : World} {a : Addr} {x : Value} (h : ucell w a = some x) : a.block < w.heap.size := World.block_lt_of_cell? w a (ucell_le _ _ h)
theorem ucell_blk {w : World} {b : Nat} {c : Array Value} {T : TypeId} (h : w.heap[b]? = some (.cells c T (0, 0))) (i : Nat) {v : Value} (hi : c[i]? = some v) : ucell w ⟨b, i, none⟩ = some v := by
  simp [ucell, h, hi]
theorem ucell_heap {w : World} {a : Addr} {x : Value} (h : ucell w a = some x) : ∃ c T, w.heap[a.block]? = some (.cells c T (0, 0)) := by
  unfold ucell at h
  split at h
  · rename_i hb; exact ⟨_, _, hb⟩
  · cases h
theorem mleU {w w' : World} (h : Below w.heap.size w w') : MLe (ucell w) (ucell w') := fun a x e => by rw [ucell_of (h.block _ (ucell_lt e))]; exact e

/-- Below block B the memory m; from B on what w holds, but for the block r. -/
def fr (m : Mem) (B : Nat) (w : World) (r : Option Nat) : Mem := fun a => if B ≤ a.block then (if some a.block = r then none else ucell w a) else m a

theorem fr_le {m : Mem} {B : Nat} {w : World} {r : Option Nat} (hm : MLe m w.cell?) : MLe (fr m B w r) w.cell? := by
  intro a x h
  unfold fr at h
  split at h
  · split at h
    · cases h
    · exact ucell_le _ _ h
  · exact hm _ _ h
theorem fr_leU {m : Mem} {B : Nat} {w : World} {r : Option Nat} (hm : MLe m (ucell w)) : MLe (fr m B w r) (ucell w) := by
  intro a x h
  unfold fr at h
  split at h
  · split at h
    · cases h
    · exact h
  · exact hm _ _ h
theorem fr_none {m : Mem} {B : Nat} {w : World} {r : Option Nat} : MLe (fr m B w r) (fr m B w none) := by
  intro a x h
  unfold fr at h ⊢
  split at h
  · split at h
    · cases h
    · rename_i h1 _; rw [if_pos h1, if_neg (by simp)]; exact h
  · rename_i h1; rw [if_neg h1]; exact h
theorem fr_old {m : Mem} {B : Nat} {w : World} {r : Option Nat} (hl : Lo m B) : MLe m (fr m B w r) := by
  intro a x h
  unfold fr
  rw [if_neg (by have := hl a x h; omega)]
  exact h
/-- The one row r is written, or new: what lies elsewhere stays. -/
theorem fr_step {m : Mem} {B : Nat} {w w' : World} {r r' : Option Nat} (hb : ∀ k, B ≤ k → k < w.heap.size → some k ≠ r → w'.heap[k]? = w.heap[k]?) (h' : r' = r ∨ ∃ k, r' = some k ∧ w.heap.size ≤ k) :
    MLe (fr m B w r) (fr m B w' r') := by
  intro a x h
  unfold fr at h ⊢
  split at h
  · rename_i h1
    split at h
    · cases h
    · rename_i h2
      have hlt := ucell_lt h
      rw [if_pos h1, if_neg]
      · exact (ucell_of (hb a.block h1 hlt h2)).trans h
      · rcases h' with rfl | ⟨k, rfl, hk⟩
        · exact h2
        · intro e; simp only [Option.some.injEq] at e; omega
  · rename_i h1; rw [if_neg h1]; exact h
/-- What a callee laid from B1 on, seen from a call that has begun before. -/
theorem fr_deep {m : Mem} {B B1 : Nat} {w w' : World} {r r' : Option Nat} (hl : Lo m B) (hB : B ≤ B1) (hr : ∀ k, r = some k → k < B1)
    (hb : ∀ k, B1 ≤ k → k < w.heap.size → some k ≠ r → w'.heap[k]? = w.heap[k]?) (h' : r' = r ∨ ∃ k, r' = some k ∧ w.heap.size ≤ k) : MLe (fr m B1 w none) (fr m B w' r') := by
  intro a x h
  unfold fr at h ⊢
  split at h
  · rename_i h1
    rw [if_neg (by simp)] at h
    have hlt := ucell_lt h
    have hne : some a.block ≠ r := fun e => by have := hr a.block e.symm; omega
    rw [if_pos (by omega), if_neg]
    · exact (ucell_of (hb a.block h1 hlt hne)).trans h
    · rcases h' with rfl | ⟨k, rfl, hk⟩
      · exact hne
      · intro e; simp only [Option.some.injEq] at e; omega
  · rw [if_neg (by have := hl a x h; omega)]; exact h

theorem fr_lower {m : Mem} {B B' : Nat} {w w' : World} (hl : Lo m B) (hB : B ≤ B') (hb : ∀ k, B' ≤ k → k < w.heap.size → w'.heap[k]? = w.heap[k]?) : MLe (fr m B' w none) (fr m B w' none) :=
  fr_deep hl hB (fun k e => by cases e) (fun k h1 h2 _ => hb k h1 h2) (.inl rfl)

/-! ### A row of the call's own, its elements anywhere but in the row -/
/-- How an element of type α lies in memory, by its cells: a relation that more memory doesn't break. -/
def EM {α : Type} (E : Mem → List Value → α → Prop) : Prop := ∀ m m' c x, MLe m m' → E m c x → E m' c x

def Own {α : Type} (E : Mem → List Value → α → Prop) (m : Mem) (e sz B : Nat) (w : World) (v : Value) (l : List α) : Prop :=
  ∃ xs, w.ownsRow B e sz v l.length xs ∧ ∀ i (h : i < l.length), E (fr m B w v.ownBlock) ((xs.drop (i * sz)).take sz) l[i]

section
variable {α : Type} {E : Mem → List Value → α → Prop} {m : Mem} {e sz B : Nat} {w w' : World} {v v' : Value} {l : List α}

theorem Own.nil (E : Mem → List Value → α → Prop) (m : Mem) (e sz B : Nat) (w : World) : Own E m e sz B w (.slice none 0 0) [] :=
  ⟨[], World.ownsRow_nil w B e sz, fun i h => absurd h (by simp)⟩

theorem Own.lt (h : Own E m e sz B w v l) : ∀ k, v.ownBlock = some k → B ≤ k ∧ k < w.heap.size := by
  obtain ⟨xs, h, _⟩ := h; exact h.lt

/-- Nothing from B on has turned. -/
theorem Own.keep (hE : EM E) (h : Own E m e sz B w v l) (hb : ∀ k, B ≤ k → k < w.heap.size → w'.heap[k]? = w.heap[k]?) : Own E m e sz B w' v l := by
  obtain ⟨xs, ho, hx⟩ := h
  refine ⟨xs, ⟨ho.1, ?_⟩, fun i hi => hE _ _ _ _ (fr_step (fun k h1 h2 _ => hb k h1 h2) (.inl rfl)) (hx i hi)⟩
  rcases ho.2 with hn | ⟨g, cap, cur, rfl, hbg, hgg, rest⟩
  · exact .inl hn
  · exact .inr ⟨g, cap, cur, rfl, hbg, by rw [hb g hbg (Array.getElem?_eq_some_iff.1 hgg).1]; exact hgg, rest⟩
theorem Own.kp (hE : EM E) (h : Own E m e sz B w v l) {S : Nat → Prop} (hk : Kp S w w') (hs : ∀ k, B ≤ k → k < w.heap.size → ¬ S k) : Own E m e sz B w' v l :=
  h.keep hE (fun k h1 h2 => hk.block k h2 (hs k h1 h2))
theorem Own.bl (hE : EM E) (h : Own E m e sz B w v l) (hk : Below w.heap.size w w') : Own E m e sz B w' v l :=
  h.keep hE (fun k _ h2 => hk.block k h2)

/-- One element more: its cells 'news' are copied behind the row's. -/
theorem Own.snoc (hE : EM E) {xs news : List Value} {x : α} {B1 : Nat} (hl : Lo m B) (ho : w.ownsRow B e sz v l.length xs) (hx : ∀ i (h : i < l.length), E (fr m B w v.ownBlock) ((xs.drop (i * sz)).take sz) l[i])
    (hn : news.length = sz) (hEx : E (fr m B1 w none) news x) (hB : B ≤ B1) (hv : ∀ k, v.ownBlock = some k → k < B1)
    (ho' : w'.ownsRow B e sz v' (l.length + 1) (xs ++ news)) (hg : w.grownBy w' v.ownBlock) (hat : v'.ownBlock = v.ownBlock ∨ v'.ownBlock = some w.heap.size) : Own E m e sz B w' v' (l ++ [x]) := by
  have hat' : v'.ownBlock = v.ownBlock ∨ ∃ k, v'.ownBlock = some k ∧ w.heap.size ≤ k := hat.imp id (fun e => ⟨_, e, Nat.le_refl _⟩)
  refine ⟨xs ++ news, by rw [List.length_append]; exact ho', fun i hi => ?_⟩
  have hxl : xs.length = l.length * sz := ho.1
  by_cases h : i < l.length
  · have e1 : (l ++ [x])[i] = l[i] := List.getElem_append_left h
    have hle : i * sz + sz ≤ xs.length := by rw [hxl, ← Nat.succ_mul]; exact Nat.mul_le_mul_right _ h
    have e2 : ((xs ++ news).drop (i * sz)).take sz = (xs.drop (i * sz)).take sz := by
      rw [List.drop_append_of_le_length (by omega), List.take_append_of_le_length (by rw [List.length_drop]; omega)]
    rw [e1, e2]
    exact hE _ _ _ _ (fr_step (fun k _ h2 h3 => hg.block k h2 h3) hat') (hx i h)
  · have hi' : i = l.length := by simp only [List.length_append, List.length_singleton] at hi; omega
    subst hi'
    have e1 : (l ++ [x])[l.length] = x := by simp
    have e2 : ((xs ++ news).drop (l.length * sz)).take sz = news := by
      rw [← hxl, List.drop_append_of_le_length (Nat.le_refl _), List.drop_length, List.nil_append, ← hn, List.take_length]
    rw [e1, e2]
    exact hE _ _ _ _ (fr_deep hl hB hv (fun k _ h2 h3 => hg.block k h2 h3) hat') hEx

/-- What is owned lies in memory as a row. -/
theorem Own.row (hE : EM E) (h : Own E m e sz B w v l) : ∃ a c f, v = .slice a l.length c ∧ l.length ≤ c ∧ c ≤ maxLen ∧ Row (fr m B w none) sz a l.length f ∧ ∀ i (h : i < l.length), E (fr m B w none) (f i) l[i] := by
  obtain ⟨xs, ho, hx⟩ := h
  have hx' : ∀ i (h : i < l.length), E (fr m B w none) ((xs.drop (i * sz)).take sz) l[i] := fun i hi => hE _ _ _ _ fr_none (hx i hi)
  rcases ho.2 with ⟨rfl, h0⟩ | ⟨g, cap, cur, rfl, hb, hg, h1, h2, h3, h4⟩
  · refine ⟨none, 0, fun i => (xs.drop (i * sz)).take sz, by rw [h0], by omega, by simp [maxLen], fun hn => absurd hn (by omega), hx'⟩
  · refine ⟨some ⟨g, 0, none⟩, cap, fun i => (xs.drop (i * sz)).take sz, rfl, h1, h2, fun _ => ⟨g, 0, rfl, fun i hi j u hj => ?_⟩, hx'⟩
    unfold fr
    rw [if_pos hb, if_neg (by simp)]
    have hxl : xs.length = l.length * sz := ho.1
    rw [List.getElem?_take] at hj
    split at hj
    · rename_i hjs
      rw [List.getElem?_drop] at hj
      refine ucell_blk hg _ ?_
      have h5 : (cur.toList.take (l.length * sz))[i * sz + j]? = xs[i * sz + j]? := by rw [h4]
      have hk : i * sz + j < xs.length := (List.getElem?_eq_some_iff.1 hj).1
      rw [List.getElem?_take_of_lt (by omega), hj] at h5
      rw [Nat.zero_add, ← Array.getElem?_toList]; exact h5
    · cases hj

end

/-- The row of the table of types for a slice type t over e. -/
structure SlT (P : Program) (t e sz bytes : Nat) : Prop where
  ht : P.underlying t = some (.slice e)
  hi : ∃ i z, P.info? e = some i ∧ i.zero = some z ∧ i.size = sz ∧ i.bytes = bytes ∧ z.cells.size = sz
  hsz : 0 < sz

section
variable {P : Program} {α : Type} {E : Mem → List Value → α → Prop} {m : Mem} {e sz B : Nat} {v : Value} {l : List α}
/-- What is asked of the operands of 'append(s, x)', one element y onto a row of the call's own. -/
structure Snoc (P : Program) (E : Mem → List Value → α → Prop) (m : Mem) (t e sz B : Nat) (w : World) (v : Value) (l : List α) (g c : Nat) (news : List Value) (y : α) : Prop where
  own : Own E m e sz B w v l
  lo : Lo m B
  cells : ∀ j u, news[j]? = some u → w.cell? ⟨g, j, none⟩ = some u
  ln : news.length = sz
  one : ∀ u ∈ news, u.oneCell' = true
  elem : ∃ B1, E (fr m B1 w none) news y ∧ B ≤ B1 ∧ ∀ k, v.ownBlock = some k → k < B1
  fit : ∃ bytes, SlT P t e sz bytes ∧ (l.length + 1) * bytes ≤ 140737488355328
  small : l.length + 1 ≤ maxLen
  base : B ≤ w.heap.size

theorem wp_snoc (hE : EM E) {w : World} {o : Oper} {a : Act} {K : Act → World → Prop} {Q : Exit → Act → World → Prop} (s x : Operand) (t : TypeId)
    (ho : o.op = .call { callee := .builtin .append, args := #[s, x], argTypes := #[t, t] }) (hs : a.eval s = v) (g c : Nat) (hx : a.eval x = .slice (some ⟨g, 0, none⟩) 1 c) {news : List Value} {y : α}
    (S : Snoc P E m t e sz B w v l g c news y)
    (h : ∀ g' cap w', Own E m e sz B w' (.slice (some ⟨g', 0, none⟩) (l.length + 1) cap) (l ++ [y]) → w.grownBy w' v.ownBlock → (∀ k, v.ownBlock = some k → B ≤ k) → (v.ownBlock = some g' ∨ g' = w.heap.size) → K (a.put o.dst (.slice (some ⟨g', 0, none⟩) (l.length + 1) cap)) w') : o.wp P a w K Q := by
  obtain ⟨hown, hlo, hnews, hln, h1, ⟨B1, hEx, hB, hv⟩, ⟨bytes, ⟨ht, ⟨i, z, hi, hz, hsize, hby, hzs⟩, hsz⟩, hfit⟩, h63, hbase⟩ := S
  have hlt := hown.lt
  obtain ⟨xs, hr, hxs⟩ := hown
  refine wp_append_lies w s x t ho B e i z sz bytes ht hi hz hsize hby hzs hsz v l.length xs hs hr ⟨g, 0, none⟩ 1 c news hx (by rw [hln, Nat.one_mul]) (fun j u hj => ?_) h1 (Nat.le_refl _) h63 hfit hbase _ rfl
    fun g' cap w' h2 h3 h4 _ => h g' cap w' (Own.snoc hE hlo hr hxs hln hEx hB hv h2 h3 ?_) h3 (fun k hk => (hlt k hk).1) h4
  · rw [show ((⟨g, 0, none⟩ : Addr).add j) = ⟨g, j, none⟩ by unfold Addr.add; split <;> simp_all]
    exact hnews j u hj
  · rcases h4 with h4 | rfl
    · exact .inl h4.symm
    · exact .inr rfl

theorem wpList_snoc (hE : EM E) {w : World} {ops : Array Oper} {rest : List Oper} {o : Oper} {a : Act} {Q : Exit → Act → World → Prop} (hgd : o.guard = none) (s x : Operand) (t : TypeId)
    (ho : o.op = .call { callee := .builtin .append, args := #[s, x], argTypes := #[t, t] }) (hs : a.eval s = v) (g c : Nat) (hx : a.eval x = .slice (some ⟨g, 0, none⟩) 1 c) {news : List Value} {y : α}
    (S : Snoc P E m t e sz B w v l g c news y)
    (h : ∀ g' cap w', Own E m e sz B w' (.slice (some ⟨g', 0, none⟩) (l.length + 1) cap) (l ++ [y]) → w.grownBy w' v.ownBlock → (∀ k, v.ownBlock = some k → B ≤ k) → (v.ownBlock = some g' ∨ g' = w.heap.size) → wpList P ops Q rest (a.put o.dst (.slice (some ⟨g', 0, none⟩) (l.length + 1) cap)) w') : wpList P ops Q (o :: rest) a w :=
  wpList_plain hgd fun _ hK => wp_snoc hE s x t ho hs g c hx S fun g' cap w' h2 h3 h4 h5 => hK _ _ (h g' cap w' h2 h3 h4 h5)

theorem step_snoc (hE : EM E) {w : World} {ops : Array Oper} {o : Oper} {a : Act} {K : Act → World → Prop} {Q : Exit → Act → World → Prop} {F : Prop} (hgd : o.guard = none) (s x : Operand) (t : TypeId)
    (ho : o.op = .call { callee := .builtin .append, args := #[s, x], argTypes := #[t, t] }) (hs : a.eval s = v) (g c : Nat) (hx : a.eval x = .slice (some ⟨g, 0, none⟩) 1 c) {news : List Value} {y : α}
    (S : Snoc P E m t e sz B w v l g c news y)
    (h : ∀ g' cap w', Own E m e sz B w' (.slice (some ⟨g', 0, none⟩) (l.length + 1) cap) (l ++ [y]) → w.grownBy w' v.ownBlock → (∀ k, v.ownBlock = some k → B ≤ k) → (v.ownBlock = some g' ∨ g' = w.heap.size) → K (a.put o.dst (.slice (some ⟨g', 0, none⟩) (l.length + 1) cap)) w') :
    if Region.wanted o (yielded ops a.tmps) = true then Oper.wp P o a w K Q else F := by
  have hw : Region.wanted o (yielded ops a.tmps) = true := by simp [Region.wanted, hgd]
  rw [if_pos hw]
  exact wp_snoc hE s x t ho hs g c hx S h
end

theorem slT_of {P : Program} {t e : TypeId} {z : Value} {sz bytes : Nat} (ht : P.underlying t = some (.slice e)) (h : (P.info? e).map (fun i => (i.zero, i.size, i.bytes)) = some (some z, sz, bytes)) (hz : z.cells.size = sz) (hs : 0 < sz) : SlT P t e sz bytes := by
  obtain ⟨i, hi, h1, h2, h3⟩ := info_parts h
  exact ⟨ht, ⟨i, z, hi, h1, h2, h3, hz⟩, hs⟩
theorem sl34 : SlT Tryz.prog 34 36 4 72 := slT_of (z := .agg #[.int .i64 0, .string ⟨#[]⟩, .slice none 0 0, .slice none 0 0]) Tryz.underlying34 (by kernel_rfl) rfl (by decide)
theorem sl40 : SlT Tryz.prog 40 42 4 80 := slT_of (z := .agg #[.int .i64 0, .slice none 0 0, .slice none 0 0, .slice none 0 0]) Tryz.underlying40 (by kernel_rfl) rfl (by decide)
theorem sl39 : SlT Tryz.prog 39 85 2 24 := slT_of (z := .agg #[.int .i64 0, .string ⟨#[]⟩]) Tryz.underlying39 (by kernel_rfl) rfl (by decide)
theorem sl22 : SlT Tryz.prog 22 54 2 24 := slT_of (z := .agg #[.int .i64 0, .string ⟨#[]⟩]) Tryz.underlying22 (by kernel_rfl) rfl (by decide)
theorem sl26 : SlT Tryz.prog 26 9 1 16 := slT_of (z := .string ⟨#[]⟩) Tryz.underlying26 (by kernel_rfl) rfl (by decide)
theorem sl23 : SlT Tryz.prog 23 25 6 112 := slT_of (z := .agg #[.int .i64 0, .string ⟨#[]⟩, .string ⟨#[]⟩, .slice none 0 0, .slice none 0 0, .slice none 0 0]) Tryz.underlying23 (by kernel_rfl) rfl (by decide)
theorem sl109 : SlT Tryz.prog 109 74 1 16 := slT_of (z := .nilIface) Tryz.underlying109 (by kernel_rfl) rfl (by decide)
theorem sl110 : SlT Tryz.prog 110 74 1 16 := slT_of (z := .nilIface) Tryz.underlying110 (by kernel_rfl) rfl (by decide)
theorem sl147 : SlT Tryz.prog 147 20 1 16 := slT_of (z := .nilIface) Tryz.underlying147 (by kernel_rfl) rfl (by decide)
theorem sl98 : SlT Tryz.prog 98 100 1 8 := slT_of (z := .pointer none) Tryz.underlying98 (by kernel_rfl) rfl (by decide)

/-! A block that is known whole. -/
theorem cell_blk {w : World} {b : Nat} {c : Array Value} {T : TypeId} {f : Nat × Nat} (h : w.heap[b]? = some (.cells c T f)) (i : Nat) {v : Value} (hi : c[i]? = some v) : w.cell? ⟨b, i, none⟩ = some v := by
  simp [World.cell?, h, hi]
theorem froz_blk {w : World} {b : Nat} {c : Array Value} {T : TypeId} (h : w.heap[b]? = some (.cells c T (0, 0))) (i : Nat) : w.frozen? ⟨b, i, none⟩ = false := by
  simp [World.frozen?, h]
theorem mle_alloc {m : Mem} {w : World} (h : MLe m w.cell?) (o : Obj) : MLe m (w.alloc o).cell? := h.trans (mle_below ((Below.refl _ _).alloc (Nat.le_refl _) o))
theorem mle_drew {m : Mem} {w : World} (h : MLe m w.cell?) : MLe m w.drew.cell? := h
theorem grown_heap {w w' : World} {r : Option Nat} (hg : w.grownBy w' r) {b : Nat} {o : Obj} (h : w.heap[b]? = some o) (hr : ∀ k, r = some k → k ≠ b) : w'.heap[b]? = some o := by
  rw [hg.block b (Array.getElem?_eq_some_iff.1 h).1 (fun e => hr b e.symm rfl)]; exact h
theorem cells_new (w : World) (l : List Value) (T : TypeId) : ∀ j u, l[j]? = some u → (w.alloc (.cells l.toArray T)).cell? ⟨w.heap.size, j, none⟩ = some u := fun j u h => by
  rw [World.cell?_alloc_new]; simpa using h
theorem fr_bl {m : Mem} {B : Nat} {w w' : World} {r : Option Nat} (h : Below w.heap.size w w') : MLe (fr m B w r) (fr m B w' r) := fr_step (fun k _ h2 _ => h.block k h2) (.inl rfl)
theorem fr_alloc {m : Mem} {B : Nat} {w : World} {r : Option Nat} (o : Obj) : MLe (fr m B w r) (fr m B (w.alloc o) r) := fr_bl ((Below.refl _ _).alloc (Nat.le_refl _) o)
theorem Own.alloc {α : Type} {E : Mem → List Value → α → Prop} {m : Mem} {e sz B : Nat} {w : World} {v : Value} {l : List α} (h : Own E m e sz B w v l) (hE : EM E) (o : Obj) : Own E m e sz B (w.alloc o) v l := h.bl hE ((Below.refl _ _).alloc (Nat.le_refl _) o)
theorem Own.drew {α : Type} {E : Mem → List Value → α → Prop} {m : Mem} {e sz B : Nat} {w : World} {v : Value} {l : List α} (h : Own E m e sz B w v l) (hE : EM E) : Own E m e sz B w.drew v l := h.bl hE (Below.refl _ _).drew
theorem Own.setLow {α : Type} {E : Mem → List Value → α → Prop} {m : Mem} {e sz B : Nat} {w : World} {v : Value} {l : List α} (h : Own E m e sz B w v l) (hE : EM E) {p : Addr} (hp : p.block < B) (u : Value) : Own E m e sz B (w.setCell p u) v l :=
  h.keep hE (fun k h1 _ => Below.heap_setCell _ _ _ _ (by omega))
theorem bl_alloc {a b : World} (h : Below a.heap.size a b) (o : Obj) : Below a.heap.size a (b.alloc o) := h.alloc h.size o
theorem bl_grown {a b c : World} {r : Option Nat} (h : Below a.heap.size a b) (hg : b.grownBy c r) (hr : ∀ k, r = some k → a.heap.size ≤ k) : Below a.heap.size a c := h.grown hg h.size hr
theorem al_new {w : World} {o : Obj} {k : Nat} (h : k = w.heap.size) : (w.alloc o).heap[k]? = some o := by subst h; exact heap_alloc_new w o
theorem al_old {w : World} {o o' : Obj} {k : Nat} (h : w.heap[k]? = some o') : (w.alloc o).heap[k]? = some o' := by rw [Below.heap_alloc w o k (Array.getElem?_eq_some_iff.1 h).1]; exact h
theorem set_blk {w : World} {b : Nat} {c : Array Value} {T : TypeId} {f : Nat × Nat} (h : w.heap[b]? = some (.cells c T f)) (j : Nat) (u : Value) : (w.setCell ⟨b, j, none⟩ u).heap[b]? = some (.cells (c.setIfInBounds j u) T f) := by
  simp [World.setCell, h, Array.getElem?_modify]
theorem set_old {w : World} {k : Nat} {p : Addr} {o : Obj} {u : Value} (h : w.heap[k]? = some o) (hk : k ≠ p.block) : (w.setCell p u).heap[k]? = some o := by rw [Below.heap_setCell _ _ _ _ hk]; exact h
theorem cells1 {w : World} {b : Nat} {v0 : Value} {T : TypeId} (h : w.heap[b]? = some (.cells #[v0] T (0, 0))) : w.cell? ⟨b, 0, none⟩ = some v0 ∧ w.frozen? ⟨b, 0, none⟩ = false := ⟨cell_blk h 0 rfl, froz_blk h 0⟩
theorem cells2 {w : World} {b : Nat} {v0 v1 : Value} {T : TypeId} {f : Nat × Nat} (h : w.heap[b]? = some (.cells #[v0, v1] T f)) : w.cell? ⟨b, 0, none⟩ = some v0 ∧ w.cell? ⟨b, 1, none⟩ = some v1 := ⟨cell_blk h 0 rfl, cell_blk h 1 rfl⟩
theorem cells4 {w : World} {b : Nat} {v0 v1 v2 v3 : Value} {T : TypeId} {f : Nat × Nat} (h : w.heap[b]? = some (.cells #[v0, v1, v2, v3] T f)) : w.cell? ⟨b, 0, none⟩ = some v0 ∧ w.cell? ⟨b, 1, none⟩ = some v1 ∧ w.cell? ⟨b, 2, none⟩ = some v2 ∧ w.cell? ⟨b, 3, none⟩ = some v3 := ⟨cell_blk h 0 rfl, cell_blk h 1 rfl, cell_blk h 2 rfl, cell_blk h 3 rfl⟩
theorem cells6 {w : World} {b : Nat} {v0 v1 v2 v3 v4 v5 : Value} {T : TypeId} {f : Nat × Nat} (h : w.heap[b]? = some (.cells #[v0, v1, v2, v3, v4, v5] T f)) :
    w.cell? ⟨b, 0, none⟩ = some v0 ∧ w.cell? ⟨b, 1, none⟩ = some v1 ∧ w.cell? ⟨b, 2, none⟩ = some v2 ∧ w.cell? ⟨b, 3, none⟩ = some v3 ∧ w.cell? ⟨b, 4, none⟩ = some v4 ∧ w.cell? ⟨b, 5, none⟩ = some v5 := ⟨cell_blk h 0 rfl, cell_blk h 1 rfl, cell_blk h 2 rfl, cell_blk h 3 rfl, cell_blk h 4 rfl, cell_blk h 5 rfl⟩
/-- Nothing of m lies in the block b. -/
def Av (m : Mem) (b : Nat) : Prop := ∀ a x, m a = some x → a.block ≠ b
theorem kp_mle {m : Mem} {w w' : World} {b : Nat} (hm : MLe m w.cell?) (ha : Av m b) (hk : Kp (· = b) w w') : MLe m w'.cell? := fun a x h => hk.cell (hm a x h) (ha a x h)
theorem av_lo {m : Mem} {b B : Nat} (h : Lo m B) (hb : B ≤ b) : Av m b := fun a x e => by have := h a x e; omega
theorem w64 {n : Int} (h : -9223372036854775808 ≤ n ∧ n ≤ 9223372036854775807) : wrap64 n = n := by unfold wrap64; omega
theorem lt_blk {w : World} {b : Nat} {o : Obj} (h : w.heap[b]? = some o) : b < w.heap.size := (Array.getElem?_eq_some_iff.1 h).1

theorem em_ST : EM MST := fun _ _ _ _ hm h => h.mono hm
theorem em_V : EM MV := fun _ _ _ _ hm h => h.mono hm
theorem em_IT : EM MIT := fun _ _ _ _ hm h => h.mono hm
/-- Elements that lie in their own cells alone. -/
def EKy (_ : Mem) (c : List Value) (k : Ky) : Prop := c = kyCells k
theorem eky (m : Mem) (k : Ky) : EKy m [.int .i64 k.kind, .string k.text] k := rfl
theorem em_Ky : EM EKy := fun _ _ _ _ _ h => h
theorem Own.rowST {m : Mem} {B e : Nat} {w : World} {v : Value} {l : List ST} (h : Own MST m e 4 B w v l) : ∃ a c, v = .slice a l.length c ∧ lenOk l.length c ∧ RowST (fr m B w none) a l := by
  obtain ⟨a, c, f, e, h1, h2, h3, h4⟩ := h.row em_ST; exact ⟨a, c, e, ⟨h1, h2⟩, f, h3, h4⟩
theorem Own.rowV {m : Mem} {B e : Nat} {w : World} {v : Value} {l : List Vl} (h : Own MV m e 4 B w v l) : ∃ a c, v = .slice a l.length c ∧ lenOk l.length c ∧ RowV (fr m B w none) a l := by
  obtain ⟨a, c, f, e, h1, h2, h3, h4⟩ := h.row em_V; exact ⟨a, c, e, ⟨h1, h2⟩, f, h3, h4⟩
theorem Own.rowIT {m : Mem} {B e : Nat} {w : World} {v : Value} {l : List IT} (h : Own MIT m e 6 B w v l) : ∃ a c, v = .slice a l.length c ∧ lenOk l.length c ∧ RowIT (fr m B w none) a l := by
  obtain ⟨a, c, f, e, h1, h2, h3, h4⟩ := h.row em_IT; exact ⟨a, c, e, ⟨h1, h2⟩, f, h3, h4⟩
theorem Own.rowK {m : Mem} {B e : Nat} {w : World} {v : Value} {l : List Ky} (h : Own EKy m e 2 B w v l) : ∃ a c, v = .slice a l.length c ∧ lenOk l.length c ∧ RowK (fr m B w none) a l := by
  obtain ⟨a, c, f, e, h1, h2, h3, h4⟩ := h.row em_Ky
  refine ⟨a, c, e, ⟨h1, h2⟩, fun hn => ?_⟩
  obtain ⟨b, off, rfl, hc⟩ := h3 hn
  refine ⟨b, off, rfl, fun i hi j v hj => hc i hi j v ?_⟩
  have e2 : l.getD i default = l[i] := by simp [hi]
  rw [h4 i hi, ← e2]; exact hj
/-- Behind a call that hands back an element, whose cells are laid in a block of their own. -/
theorem Snoc.call {α : Type} {P : Program} {E : Mem → List Value → α → Prop} {m : Mem} {t e sz B c bytes : Nat} {v : Value} {l : List α} {T : TypeId} {news : List Value} {y : α} (hE : EM E) {wr wc w1 : World} (hown : Own E m e sz B wr v l) (hlo : Lo m B)
    (hb : Below wr.heap.size wr wc) (hbl : Below wc.heap.size wc w1) (hres : E (fr m wc.heap.size w1 none) news y) (hs : SlT P t e sz bytes) (hln : news.length = sz) (h1 : ∀ u ∈ news, u.oneCell' = true)
    (hfit : (l.length + 1) * bytes ≤ 140737488355328) (hsm : l.length + 1 ≤ maxLen) (hB : B ≤ wr.heap.size) {g : Nat} (hg : g = w1.heap.size := by simp) : Snoc P E m t e sz B (w1.alloc (.cells news.toArray T)) v l g c news y := by
  subst hg; exact ⟨((hown.bl hE hb).bl hE hbl).alloc hE _, hlo, cells_new _ _ _, hln, h1, ⟨_, hE _ _ _ _ (fr_alloc _) hres, Nat.le_trans hB hb.size, fun k e => Nat.lt_of_lt_of_le (hown.lt k e).2 hb.size⟩, ⟨bytes, hs, hfit⟩, hsm,
    Nat.le_trans (Nat.le_trans hB hb.size) (Nat.le_trans hbl.size (by simp))⟩
/-- An element that lies in its own cells alone. -/
theorem Snoc.flat {α : Type} {P : Program} {E : Mem → List Value → α → Prop} {m : Mem} {t e sz B c bytes : Nat} {v : Value} {l : List α} {T : TypeId} {news : List Value} {y : α} (hE : EM E) {wr wc : World} (hown : Own E m e sz B wr v l) (hlo : Lo m B)
    (hb : Below wr.heap.size wr wc) (hres : ∀ m, E m news y) (hs : SlT P t e sz bytes) (hln : news.length = sz) (h1 : ∀ u ∈ news, u.oneCell' = true)
    (hfit : (l.length + 1) * bytes ≤ 140737488355328) (hsm : l.length + 1 ≤ maxLen) (hB : B ≤ wr.heap.size) {g : Nat} (hg : g = wc.heap.size := by simp) : Snoc P E m t e sz B (wc.alloc (.cells news.toArray T)) v l g c news y := by
  subst hg; exact ⟨(hown.bl hE hb).alloc hE _, hlo, cells_new _ _ _, hln, h1, ⟨_, hres _, Nat.le_trans hB hb.size, fun k e => Nat.lt_of_lt_of_le (hown.lt k e).2 hb.size⟩, ⟨bytes, hs, hfit⟩, hsm, Nat.le_trans (Nat.le_trans hB hb.size) (by simp)⟩
theorem below_kp {w a c : World} {S : Nat → Prop} (h : Below w.heap.size w a) (k : Kp S a c) (hs : ∀ i, S i → w.heap.size ≤ i) : Below w.heap.size w c :=
  h.trans ⟨k.os, k.tape, k.output, k.size, fun i hi => k.block i (Nat.lt_of_lt_of_le hi h.size) (fun e => by have := hs i e; omega)⟩
theorem Kp.mle_lo {m : Mem} {w a : World} {S : Nat → Prop} {B : Nat} (hm : MLe m w.cell?) (hl : Lo m B) (k : Kp S w a) (hs : ∀ i, S i → B ≤ i) : MLe m a.cell? := fun x y e => k.cell (hm x y e) (fun h => by have := hl x y e; have := hs _ h; omega)

end Go.Proofs.YtaglgokeejjagaaGreat
