/- Which values a type has: plain Lean. -/
import Derived.Test.YtaglgokeejjagaaGreatOwn
namespace Go.Proofs.YtaglgokeejjagaaGreat

/-- Is this the key of the property with that name? -/
def sKey (key : ByteArray) (k : Ky) : Bool := (k.kind == 4) && (k.text.toList == key.toList)
/-- The place of the static property with a name. -/
def stat (ks : List Ky) (key : ByteArray) : Option Nat := ks.findIdx? (sKey key)

theorem stat_lt {ks : List Ky} {key : ByteArray} {j : Nat} (h : stat ks key = some j) : j < ks.length := by
  obtain ⟨h, _⟩ := List.findIdx?_eq_some_iff_getElem.1 h; exact h
theorem stat_at {ks : List Ky} {key : ByteArray} {j : Nat} (h : stat ks key = some j) : sKey key (ks[j]'(stat_lt h)) = true := by
  obtain ⟨_, h, _⟩ := List.findIdx?_eq_some_iff_getElem.1 h; exact h
theorem stat_first {ks : List Ky} {key : ByteArray} {j : Nat} (h : stat ks key = some j) : ∀ i (hi : i < j), sKey key (ks[i]'(Nat.lt_trans hi (stat_lt h))) = false := by
  obtain ⟨h1, _, h2⟩ := List.findIdx?_eq_some_iff_getElem.1 h
  intro i hi
  have := h2 i hi
  simpa using this
theorem stat_none {ks : List Ky} {key : ByteArray} (h : stat ks key = none) : ∀ i (hi : i < ks.length), sKey key ks[i] = false := by
  intro i hi
  have := List.findIdx?_eq_none_iff.1 h ks[i] (List.getElem_mem hi)
  simpa using this

/-- How many of the names are those of static properties. -/
def hits (ks : List Ky) (names : List ByteArray) : Nat := names.countP fun k => (stat ks k).isSome

/-- The type has the value. -/
def InP : ST → Vl → Prop
  | .mk kd ks kids more, v =>
    (kd = 1 ∧ v.kind = 0) ∨ (kd = 2 ∧ (v.kind = 1 ∨ v.kind = 2)) ∨ (kd = 3 ∧ v.kind = 3) ∨ (kd = 4 ∧ v.kind = 4) ∨
    (kd = 5 ∧ v.kind = 5 ∧ kids.length ≤ v.kids.length ∧ (more.length = 0 → v.kids.length ≤ kids.length) ∧
      (∀ i (h : i < v.kids.length) (h2 : i < kids.length), InP kids[i] v.kids[i]) ∧ (∀ i (h : i < v.kids.length), kids.length ≤ i → ∀ d, d ∈ more → more[0]? = some d → InP d v.kids[i])) ∨
    (kd = 6 ∧ v.kind = 6 ∧ hits ks v.keys = ks.length ∧
      (∀ i (h : i < v.keys.length) j, stat ks v.keys[i] = some j → ∀ (hj : j < kids.length) (h2 : i < v.kids.length), InP kids[j] v.kids[i]) ∧
      (∀ i (h : i < v.keys.length), stat ks v.keys[i] = none → 2 ≤ more.length ∧ (∀ d, d ∈ more → more[0]? = some d → InP d (.mk 4 v.keys[i] [] [])) ∧ (∀ d, d ∈ more → more[1]? = some d → ∀ (h2 : i < v.kids.length), InP d v.kids[i]))) ∨
    (kd = 8 ∧ (kids.length = 0 ∨ ∃ i, ∃ (h : i < kids.length), InP kids[i] v))
termination_by t => SizeOf.sizeOf t
decreasing_by
  · exact ST.lt_kid (List.getElem_mem h2)
  · exact ST.lt_more (by assumption)
  · exact ST.lt_kid (List.getElem_mem hj)
  · exact ST.lt_more (by assumption)
  · exact ST.lt_more (by assumption)
  · exact ST.lt_kid (List.getElem_mem h)

noncomputable def inT (t : ST) (v : Vl) : Bool := @decide (InP t v) (Classical.propDecidable _)
theorem inT_true {t : ST} {v : Vl} (h : InP t v) : inT t v = true := by unfold inT; exact @decide_eq_true _ (Classical.propDecidable _) h
theorem inT_false {t : ST} {v : Vl} (h : ¬ InP t v) : inT t v = false := by unfold inT; exact @decide_eq_false _ (Classical.propDecidable _) h
theorem in_of {t : ST} {v : Vl} (h : inT t v = true) : InP t v := by unfold inT at h; exact @of_decide_eq_true _ (Classical.propDecidable _) h
theorem inP_null {t : ST} {v : Vl} (h : t.kind = 1) : InP t v ↔ v.kind = 0 := by
  obtain ⟨kd, ks, kids, more⟩ := t
  rw [InP]
  simp only [ST.kind] at h
  subst h
  simp
theorem inP_bool {t : ST} {v : Vl} (h : t.kind = 2) : InP t v ↔ v.kind = 1 ∨ v.kind = 2 := by
  obtain ⟨kd, ks, kids, more⟩ := t
  rw [InP]
  simp only [ST.kind] at h
  subst h
  simp
theorem inP_num {t : ST} {v : Vl} (h : t.kind = 3) : InP t v ↔ v.kind = 3 := by
  obtain ⟨kd, ks, kids, more⟩ := t
  rw [InP]
  simp only [ST.kind] at h
  subst h
  simp
theorem inP_str {t : ST} {v : Vl} (h : t.kind = 4) : InP t v ↔ v.kind = 4 := by
  obtain ⟨kd, ks, kids, more⟩ := t
  rw [InP]
  simp only [ST.kind] at h
  subst h
  simp
def ItemsP (t : ST) (v : Vl) : Prop := t.kids.length ≤ v.kids.length ∧ (t.more.length = 0 → v.kids.length ≤ t.kids.length) ∧
  (∀ i (h : i < v.kids.length) (h2 : i < t.kids.length), InP t.kids[i] v.kids[i]) ∧ (∀ i (h : i < v.kids.length), t.kids.length ≤ i → ∀ d, t.more[0]? = some d → InP d v.kids[i])
def PropsP (t : ST) (v : Vl) : Prop := hits t.keys v.keys = t.keys.length ∧
  (∀ i (h : i < v.keys.length) j, stat t.keys v.keys[i] = some j → ∀ (hj : j < t.kids.length) (h2 : i < v.kids.length), InP t.kids[j] v.kids[i]) ∧
  (∀ i (h : i < v.keys.length), stat t.keys v.keys[i] = none → 2 ≤ t.more.length ∧ (∀ d, t.more[0]? = some d → InP d (.mk 4 v.keys[i] [] [])) ∧ (∀ d, t.more[1]? = some d → ∀ (h2 : i < v.kids.length), InP d v.kids[i]))
theorem inP_arr {t : ST} {v : Vl} (h : t.kind = 5) : InP t v ↔ v.kind = 5 ∧ ItemsP t v := by
  obtain ⟨kd, ks, kids, more⟩ := t
  rw [InP]
  simp only [ST.kind] at h
  subst h
  simp only [ItemsP, ST.kids, ST.more]
  constructor
  · rintro (h | h | h | h | h | h | h)
    · omega
    · omega
    · omega
    · omega
    · exact ⟨h.2.1, h.2.2.1, h.2.2.2.1, h.2.2.2.2.1, fun i hi hl d hd => h.2.2.2.2.2 i hi hl d (List.mem_of_getElem? hd) hd⟩
    · omega
    · omega
  · rintro ⟨h0, h1, h2, h3, h4⟩
    exact .inr (.inr (.inr (.inr (.inl ⟨trivial, h0, h1, h2, h3, fun i hi hl d _ hd => h4 i hi hl d hd⟩))))
theorem inP_obj {t : ST} {v : Vl} (h : t.kind = 6) : InP t v ↔ v.kind = 6 ∧ PropsP t v := by
  obtain ⟨kd, ks, kids, more⟩ := t
  rw [InP]
  simp only [ST.kind] at h
  subst h
  simp only [PropsP, ST.kids, ST.more, ST.keys]
  constructor
  · rintro (h | h | h | h | h | h | h)
    · omega
    · omega
    · omega
    · omega
    · omega
    · exact ⟨h.2.1, h.2.2.1, h.2.2.2.1, fun i hi hs => ⟨(h.2.2.2.2 i hi hs).1, fun d hd => (h.2.2.2.2 i hi hs).2.1 d (List.mem_of_getElem? hd) hd, fun d hd h2 => (h.2.2.2.2 i hi hs).2.2 d (List.mem_of_getElem? hd) hd h2⟩⟩
    · omega
  · rintro ⟨h0, h1, h2, h3⟩
    exact .inr (.inr (.inr (.inr (.inr (.inl ⟨trivial, h0, h1, h2, fun i hi hs => ⟨(h3 i hi hs).1, fun d _ hd => (h3 i hi hs).2.1 d hd, fun d _ hd h2 => (h3 i hi hs).2.2 d hd h2⟩⟩)))))
theorem inP_any {t : ST} {v : Vl} (h : t.kind = 8) : InP t v ↔ t.kids.length = 0 ∨ ∃ i, ∃ (h : i < t.kids.length), InP t.kids[i] v := by
  obtain ⟨kd, ks, kids, more⟩ := t
  rw [InP]
  simp only [ST.kind] at h
  subst h
  simp [ST.kids]
theorem inP_none {t : ST} {v : Vl} (h : ¬ (1 ≤ t.kind ∧ t.kind ≤ 6) ∧ t.kind ≠ 8) : ¬ InP t v := by
  obtain ⟨kd, ks, kids, more⟩ := t
  rw [InP]
  simp only [ST.kind] at h
  omega

/-- No names; as many keys as kids at most. -/
inductive Wt : ST → Prop
  | mk {kd : Int} {ks : List Ky} {kids more : List ST} (h0 : kd ≠ 10) (h1 : ks.length ≤ kids.length) (h2 : ∀ k ∈ kids, Wt k) (h3 : ∀ k ∈ more, Wt k) : Wt (.mk kd ks kids more)
inductive Wv : Vl → Prop
  | mk {kd : Int} {tx : ByteArray} {ks : List ByteArray} {kids : List Vl} (h1 : ks.length ≤ kids.length) (h2 : ∀ k ∈ kids, Wv k) : Wv (.mk kd tx ks kids)
theorem Wt.out {t : ST} (h : Wt t) : t.kind ≠ 10 ∧ t.keys.length ≤ t.kids.length ∧ (∀ k ∈ t.kids, Wt k) ∧ ∀ k ∈ t.more, Wt k := by cases h with | mk a b c d => exact ⟨a, b, c, d⟩
theorem Wv.out {t : Vl} (h : Wv t) : t.keys.length ≤ t.kids.length ∧ ∀ k ∈ t.kids, Wv k := by cases h with | mk b c => exact ⟨b, c⟩

end Go.Proofs.YtaglgokeejjagaaGreat
