/- Weights of types and values, and what becomes of a type as it is copied: plain Lean. -/
import Derived.Test.YtaglgokeejjagaaGreatBase
namespace Go.Proofs.YtaglgokeejjagaaGreat
variable {α : Type}

theorem Vl.lt_kid {kd : Int} {tx : ByteArray} {ks : List ByteArray} {kids : List Vl} {k : Vl} (h : k ∈ kids) : SizeOf.sizeOf k < SizeOf.sizeOf (Vl.mk kd tx ks kids) := by
  have := List.sizeOf_lt_of_mem h
  simp only [Vl.mk.sizeOf_spec]; omega
theorem ST.lt_kid {kd : Int} {ks : List Ky} {kids more : List ST} {k : ST} (h : k ∈ kids) : SizeOf.sizeOf k < SizeOf.sizeOf (ST.mk kd ks kids more) := by
  have := List.sizeOf_lt_of_mem h
  simp only [ST.mk.sizeOf_spec]; omega
theorem ST.lt_more {kd : Int} {ks : List Ky} {kids more : List ST} {k : ST} (h : k ∈ more) : SizeOf.sizeOf k < SizeOf.sizeOf (ST.mk kd ks kids more) := by
  have := List.sizeOf_lt_of_mem h
  simp only [ST.mk.sizeOf_spec]; omega
theorem IT.lt_kid {kd : Int} {nm tx : ByteArray} {ks : List Ky} {kids more : List IT} {k : IT} (h : k ∈ kids) : SizeOf.sizeOf k < SizeOf.sizeOf (IT.mk kd nm tx ks kids more) := by
  have := List.sizeOf_lt_of_mem h
  simp only [IT.mk.sizeOf_spec]; omega
theorem IT.lt_more {kd : Int} {nm tx : ByteArray} {ks : List Ky} {kids more : List IT} {k : IT} (h : k ∈ more) : SizeOf.sizeOf k < SizeOf.sizeOf (IT.mk kd nm tx ks kids more) := by
  have := List.sizeOf_lt_of_mem h
  simp only [IT.mk.sizeOf_spec]; omega

theorem Vl.lt_kid' {t k : Vl} (h : k ∈ t.kids) : SizeOf.sizeOf k < SizeOf.sizeOf t := by cases t; exact Vl.lt_kid h
theorem ST.lt_kid' {t k : ST} (h : k ∈ t.kids) : SizeOf.sizeOf k < SizeOf.sizeOf t := by cases t; exact ST.lt_kid h
theorem ST.lt_more' {t k : ST} (h : k ∈ t.more) : SizeOf.sizeOf k < SizeOf.sizeOf t := by cases t; exact ST.lt_more h
theorem IT.lt_kid' {t k : IT} (h : k ∈ t.kids) : SizeOf.sizeOf k < SizeOf.sizeOf t := by cases t; exact IT.lt_kid h
theorem IT.lt_more' {t k : IT} (h : k ∈ t.more) : SizeOf.sizeOf k < SizeOf.sizeOf t := by cases t; exact IT.lt_more h

/-- What there is in a value: itself, its letters, its keys and their letters, and what is in its kids. -/
def WV : Vl → Nat
  | .mk _ tx ks kids => 1 + tx.size + ks.length + (ks.map ByteArray.size).sum + (kids.map WV).sum
termination_by t => SizeOf.sizeOf t
decreasing_by exact Vl.lt_kid (by assumption)

/-- What there is in a type. -/
def WI : IT → Nat
  | .mk _ _ _ ks kids more => 1 + ks.length + (ks.map fun k => k.text.size).sum + (kids.map WI).sum + (more.map WI).sum
termination_by t => SizeOf.sizeOf t
decreasing_by
  · exact IT.lt_kid (by assumption)
  · exact IT.lt_more (by assumption)

/-- What there is in a type of the reference. -/
def WS : ST → Nat
  | .mk _ ks kids more => 1 + ks.length + (ks.map fun k => k.text.size).sum + (kids.map WS).sum + (more.map WS).sum
termination_by t => SizeOf.sizeOf t
decreasing_by
  · exact ST.lt_kid (by assumption)
  · exact ST.lt_more (by assumption)

/-- A type without its name and text. -/
def toS : IT → ST
  | .mk kd _ _ ks kids more => .mk kd ks (kids.map toS) (more.map toS)
termination_by t => SizeOf.sizeOf t
decreasing_by
  · exact IT.lt_kid (by assumption)
  · exact IT.lt_more (by assumption)

theorem WV_pos (t : Vl) : 1 ≤ WV t := by cases t; rw [WV]; omega
theorem WI_pos (t : IT) : 1 ≤ WI t := by cases t; rw [WI]; omega
theorem WS_pos (t : ST) : 1 ≤ WS t := by cases t; rw [WS]; omega

theorem sum_ge (f : α → Nat) (h : ∀ x, 1 ≤ f x) (l : List α) : l.length ≤ (l.map f).sum := by
  induction l with
  | nil => simp
  | cons a r ih => simp only [List.length_cons, List.map_cons, List.sum_cons]; have := h a; omega
theorem le_sum (f : α → Nat) {l : List α} {x : α} (h : x ∈ l) : f x ≤ (l.map f).sum := by
  induction l with
  | nil => cases h
  | cons a r ih =>
    simp only [List.map_cons, List.sum_cons]
    rcases List.mem_cons.1 h with rfl | h
    · omega
    · have := ih h; omega

theorem WV_kid {t k : Vl} (h : k ∈ t.kids) : WV k ≤ WV t := by
  obtain ⟨kd, tx, ks, kids⟩ := t
  have := le_sum WV (show k ∈ kids from h)
  rw [WV.eq_def (.mk kd tx ks kids)]; simp only; omega
theorem WV_kids (t : Vl) : t.kids.length ≤ WV t := by
  obtain ⟨kd, tx, ks, kids⟩ := t
  have := sum_ge WV WV_pos kids
  rw [WV]; simp only [Vl.kids]; omega
theorem WV_keys (t : Vl) : t.keys.length ≤ WV t := by
  obtain ⟨kd, tx, ks, kids⟩ := t
  rw [WV]; simp only [Vl.keys]; omega
theorem WI_kid {t k : IT} (h : k ∈ t.kids) : WI k ≤ WI t := by
  obtain ⟨kd, nm, tx, ks, kids, more⟩ := t
  have := le_sum WI (show k ∈ kids from h)
  rw [WI.eq_def (.mk kd nm tx ks kids more)]; simp only; omega
theorem WI_more {t k : IT} (h : k ∈ t.more) : WI k ≤ WI t := by
  obtain ⟨kd, nm, tx, ks, kids, more⟩ := t
  have := le_sum WI (show k ∈ more from h)
  rw [WI.eq_def (.mk kd nm tx ks kids more)]; simp only; omega
theorem WI_lens (t : IT) : t.keys.length ≤ WI t ∧ t.kids.length ≤ WI t ∧ t.more.length ≤ WI t := by
  obtain ⟨kd, nm, tx, ks, kids, more⟩ := t
  have := sum_ge WI WI_pos kids
  have := sum_ge WI WI_pos more
  rw [WI]; simp only [IT.keys, IT.kids, IT.more]; omega
theorem WS_toS (t : IT) : WS (toS t) = WI t := by
  obtain ⟨kd, nm, tx, ks, kids, more⟩ := t
  rw [toS, WI, WS]
  have h1 : ∀ k ∈ kids, WS (toS k) = WI k := fun k _ => WS_toS k
  have h2 : ∀ k ∈ more, WS (toS k) = WI k := fun k _ => WS_toS k
  simp only [List.map_map]
  rw [show (kids.map (WS ∘ toS)) = kids.map WI from List.map_congr_left h1, show (more.map (WS ∘ toS)) = more.map WI from List.map_congr_left h2]
termination_by SizeOf.sizeOf t
decreasing_by
  · exact IT.lt_kid (by assumption)
  · exact IT.lt_more (by assumption)

/-- No text and no list of a value is longer than memory may be. -/
inductive BdV : Vl → Prop
  | mk {kd : Int} {tx : ByteArray} {ks : List ByteArray} {kids : List Vl} (h1 : tx.size ≤ 140737488351232) (h2 : ks.length ≤ 140737488351232) (h3 : ∀ k ∈ ks, k.size ≤ 140737488351232)
      (h4 : kids.length ≤ 140737488351232) (h5 : ∀ k ∈ kids, BdV k) : BdV (.mk kd tx ks kids)
inductive BdI : IT → Prop
  | mk {kd : Int} {nm tx : ByteArray} {ks : List Ky} {kids more : List IT} (h0 : nm.size ≤ 140737488351232) (h1 : tx.size ≤ 140737488351232) (h2 : ks.length ≤ 140737488351232) (h3 : ∀ k ∈ ks, k.text.size ≤ 140737488351232)
      (h4 : kids.length ≤ 140737488351232) (h5 : ∀ k ∈ kids, BdI k) (h6 : more.length ≤ 140737488351232) (h7 : ∀ k ∈ more, BdI k) : BdI (.mk kd nm tx ks kids more)
theorem BdV.out {t : Vl} (h : BdV t) : t.text.size ≤ 140737488351232 ∧ t.keys.length ≤ 140737488351232 ∧ (∀ k ∈ t.keys, k.size ≤ 140737488351232) ∧ t.kids.length ≤ 140737488351232 ∧ ∀ k ∈ t.kids, BdV k := by
  cases h with | mk h1 h2 h3 h4 h5 => exact ⟨h1, h2, h3, h4, h5⟩
theorem BdI.out {t : IT} (h : BdI t) : t.name.size ≤ 140737488351232 ∧ t.text.size ≤ 140737488351232 ∧ t.keys.length ≤ 140737488351232 ∧ (∀ k ∈ t.keys, k.text.size ≤ 140737488351232) ∧ t.kids.length ≤ 140737488351232 ∧ (∀ k ∈ t.kids, BdI k) ∧
    t.more.length ≤ 140737488351232 ∧ ∀ k ∈ t.more, BdI k := by
  cases h with | mk h0 h1 h2 h3 h4 h5 h6 h7 => exact ⟨h0, h1, h2, h3, h4, h5, h6, h7⟩

/-- What is left of L behind W: exactly that, or less than nothing where W is more than L. -/
def Sp (W : Nat) (L L' : Int) : Prop := (0 ≤ L' ∧ L' = L - W) ∨ (L' < 0 ∧ -1125899906842624 ≤ L' ∧ L < W)

/-- .. on the way: Wk of W is taken off. -/
def SpI (Wk W : Nat) (L L' : Int) : Prop := (0 ≤ L' ∧ L' = L - Wk) ∨ (L' < 0 ∧ -1125899906842624 ≤ L' ∧ L < W)
theorem SpI.bd {Wk W : Nat} {L L' : Int} (h : SpI Wk W L L') (hL : L ≤ 1000000) : -1125899906842624 ≤ L' ∧ L' ≤ 1000000 := by
  rcases h with ⟨h1, h2⟩ | ⟨h1, h2, h3⟩ <;> omega
theorem SpI.neg {Wk Wk' W : Nat} {L L' : Int} (h : SpI Wk W L L') (hn : L' < 0) : SpI Wk' W L L' := by
  rcases h with ⟨h1, h2⟩ | h
  · omega
  · exact .inr h
theorem SpI.done {W : Nat} {L L' : Int} (h : SpI W W L L') : Sp W L L' := h
/-- x more is taken off. -/
theorem SpI.step {Wk W x : Nat} {L L' : Int} (h : SpI Wk W L L') (h0 : 0 ≤ L') (hx : x ≤ 562949953421312) (hW : Wk + x ≤ W) : SpI (Wk + x) W L (L' - x) := by
  rcases h with ⟨h1, h2⟩ | h
  · by_cases h3 : 0 ≤ L' - x
    · exact .inl ⟨h3, by omega⟩
    · exact .inr ⟨by omega, by omega, by omega⟩
  · omega
/-- A part takes its own off. -/
theorem SpI.part {Wk W x : Nat} {L L' L'' : Int} (h : SpI Wk W L L') (h0 : 0 ≤ L') (hs : Sp x L' L'') (hW : Wk + x ≤ W) : SpI (Wk + x) W L L'' := by
  rcases h with ⟨h1, h2⟩ | h
  · rcases hs with ⟨h3, h4⟩ | ⟨h3, h4, h5⟩
    · exact .inl ⟨h3, by omega⟩
    · exact .inr ⟨h3, h4, by omega⟩
  · omega

theorem sum_take_succ (f : α → Nat) (l : List α) (k : Nat) (h : k < l.length) : ((l.take (k + 1)).map f).sum = ((l.take k).map f).sum + f l[k] := by
  rw [List.take_succ_eq_append_getElem h, List.map_append, List.sum_append, List.map_cons, List.map_nil, List.sum_cons, List.sum_nil, Nat.add_zero]
theorem sum_take_le (f : α → Nat) (l : List α) (k : Nat) : ((l.take k).map f).sum ≤ (l.map f).sum := by
  conv => rhs; rw [← List.take_append_drop k l]
  rw [List.map_append, List.sum_append]; omega
theorem WV_eq (t : Vl) : WV t = 1 + t.text.size + t.keys.length + (t.keys.map ByteArray.size).sum + (t.kids.map WV).sum := by cases t; rw [WV]; rfl
theorem WI_eq (t : IT) : WI t = 1 + t.keys.length + (t.keys.map fun k => k.text.size).sum + (t.kids.map WI).sum + (t.more.map WI).sum := by cases t; rw [WI]; rfl
theorem WS_eq (t : ST) : WS t = 1 + t.keys.length + (t.keys.map fun k => k.text.size).sum + (t.kids.map WS).sum + (t.more.map WS).sum := by cases t; rw [WS]; rfl

end Go.Proofs.YtaglgokeejjagaaGreat
