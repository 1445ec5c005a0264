/- The type of a value has it: plain Lean. -/
import Derived.Test.YtaglgokeejjagaaGreatPureIn
import Derived.Test.YtaglgokeejjagaaGreatPrV
import Derived.Test.YtaglgokeejjagaaGreatTof
import Derived.Test.YtaglgokeejjagaaGreatKGV
namespace Go.Proofs.YtaglgokeejjagaaGreat
set_option linter.unusedVariables false
set_option linter.unusedSimpArgs false

theorem toS_toI : ∀ (t : ST), toS (toI t) = t
  | .mk kd ks kids more => by
    have h1 : kids.map (toS ∘ toI) = kids := (List.map_congr_left (g := id) (fun k hk => toS_toI k)).trans (List.map_id _)
    have h2 : more.map (toS ∘ toI) = more := (List.map_congr_left (g := id) (fun k hk => toS_toI k)).trans (List.map_id _)
    rw [toI_eq, toS, List.map_map, List.map_map, h1, h2]
termination_by t => SizeOf.sizeOf t
decreasing_by
  · exact ST.lt_kid (by assumption)
  · exact ST.lt_more (by assumption)
theorem WI_toI (t : ST) : WI (toI t) = WS t := by rw [← WS_toS, toS_toI]
theorem bdI_toI : ∀ (t : ST), WS t ≤ 1000000000 → BdI (toI t)
  | .mk kd ks kids more, h => by
    have hl := WS_lens kd ks kids more
    have h1 : ∀ k ∈ kids, BdI (toI k) := fun k hk => bdI_toI k (Nat.le_trans (WS_kid hk) h)
    have h2 : ∀ k ∈ more, BdI (toI k) := fun k hk => bdI_toI k (Nat.le_trans (WS_more hk) h)
    have h3 : ∀ k ∈ ks, k.text.size ≤ 1000000000 := fun k hk => by
      have := le_sum (fun k : Ky => k.text.size) hk
      have e := WS_eq (.mk kd ks kids more)
      simp only [ST.keys] at e
      omega
    rw [toI_eq]
    refine .mk (by decide) (by decide) (by omega) (fun k hk => by have := h3 k hk; omega) (by simp; omega) (fun k hk => ?_) (by simp; omega) (fun k hk => ?_)
    · obtain ⟨k', hk', rfl⟩ := List.mem_map.1 hk; exact h1 k' hk'
    · obtain ⟨k', hk', rfl⟩ := List.mem_map.1 hk; exact h2 k' hk'
termination_by t => SizeOf.sizeOf t
decreasing_by
  · exact ST.lt_kid (by assumption)
  · exact ST.lt_more (by assumption)

theorem stat_self {ks : List ByteArray} (hd : ∀ i j (hi : i < ks.length) (hj : j < ks.length), ks[i] = ks[j] → i = j) (i : Nat) (hi : i < ks.length) : stat (ks.map fun k => ⟨4, k⟩) ks[i] = some i := by
  unfold stat
  rw [List.findIdx?_eq_some_iff_getElem]
  refine ⟨by simpa using hi, by simp [sKey], fun j hj => ?_⟩
  have hj' : j < ks.length := by omega
  simp only [List.getElem_map, sKey, Bool.and_eq_true, beq_iff_eq, true_and]
  intro e
  rw [Lib.toList_data, Lib.toList_data] at e
  have : ks[j] = ks[i] := by
    have e2 : ks[j].data = ks[i].data := by cases h1 : ks[j].data; cases h2 : ks[i].data; rw [h1, h2] at e; simpa using e
    cases h1 : ks[j]; cases h2 : ks[i]; rw [h1, h2] at e2; simpa using e2
  have := hd j i hj' hi this
  omega
theorem PV.dist {t : Vl} (h : PV t) (k : t.kind = 6) : ∀ i j (hi : i < t.keys.length) (hj : j < t.keys.length), t.keys[i] = t.keys[j] → i = j := fun i j hi hj e => by
  have hc := chain_less (h.less k)
  rcases Nat.lt_trichotomy i j with h | h | h
  · exact absurd (e ▸ hc i j h hj) less_irrefl
  · exact h
  · exact absurd (e ▸ hc j i h hi) less_irrefl
theorem hits_all {ks : List ByteArray} (hd : ∀ i j (hi : i < ks.length) (hj : j < ks.length), ks[i] = ks[j] → i = j) : hits (ks.map fun k => ⟨4, k⟩) ks = ks.length := by
  unfold hits
  rw [List.countP_eq_length]
  intro k hk
  obtain ⟨i, hi, rfl⟩ := List.getElem_of_mem hk
  rw [stat_self hd i hi]; rfl

theorem PV.kind {t : Vl} (h : PV t) : 0 ≤ t.kind ∧ t.kind ≤ 6 := by cases t; exact h.out.1
/-- The type of a value has it. -/
theorem in_tyOf : ∀ (t : Vl), PV t → InP (tyOf t) t
  | .mk kd tx ks kids, h => by
    have hk := h.out.1
    have hkid : ∀ i (hi : i < kids.length), InP (tyOf kids[i]) kids[i] := fun i hi => in_tyOf kids[i] (h.kid (t := .mk kd tx ks kids) hi)
    have he : tyOf (.mk kd tx ks kids) = if kd = 0 then .mk 1 [] [] [] else if kd = 1 ∨ kd = 2 then .mk 2 [] [] [] else if kd = 3 then .mk 3 [] [] [] else if kd = 4 then .mk 4 [] [] []
      else if kd = 5 then .mk 5 [] (kids.map tyOf) [] else .mk 6 (ks.map fun k => ⟨4, k⟩) (kids.map tyOf) [] := by rw [tyOf]
    by_cases h0 : kd = 0
    · rw [if_pos h0] at he; rw [he]; exact (inP_null rfl).2 h0
    rw [if_neg h0] at he
    by_cases h1 : kd = 1 ∨ kd = 2
    · rw [if_pos h1] at he; rw [he]; exact (inP_bool rfl).2 h1
    rw [if_neg h1] at he
    by_cases h3 : kd = 3
    · rw [if_pos h3] at he; rw [he]; exact (inP_num rfl).2 h3
    rw [if_neg h3] at he
    by_cases h4 : kd = 4
    · rw [if_pos h4] at he; rw [he]; exact (inP_str rfl).2 h4
    rw [if_neg h4] at he
    by_cases h5 : kd = 5
    · rw [if_pos h5] at he; rw [he]
      refine (inP_arr rfl).2 ⟨h5, ?_, ?_, ?_, ?_⟩
      · simp [ST.kids, Vl.kids]
      · intro _; simp [ST.kids, Vl.kids]
      · intro i hi h2
        simp only [ST.kids, Vl.kids, List.getElem_map]
        exact hkid i hi
      · intro i hi hl d hd
        simp [ST.more] at hd
    · rw [if_neg h5] at he; rw [he]
      have h6 : kd = 6 := by omega
      have hd : ∀ i j (hi : i < ks.length) (hj : j < ks.length), ks[i] = ks[j] → i = j := h.dist (t := .mk kd tx ks kids) h6
      refine (inP_obj rfl).2 ⟨h6, ?_, ?_, ?_⟩
      · change hits (ks.map fun k => ⟨4, k⟩) ks = (ks.map fun k => (⟨4, k⟩ : Ky)).length
        rw [hits_all hd]; simp
      · intro i hi j hs hj h2
        change i < ks.length at hi
        change stat (ks.map fun k => ⟨4, k⟩) ks[i] = some j at hs
        rw [stat_self hd i hi] at hs
        cases hs
        change i < kids.length at h2
        change InP ((kids.map tyOf)[i]'(by simpa using h2)) kids[i]
        rw [List.getElem_map]
        exact hkid i h2
      · intro i hi hs
        change i < ks.length at hi
        change stat (ks.map fun k => ⟨4, k⟩) ks[i] = none at hs
        rw [stat_self hd i hi] at hs
        cases hs
termination_by t => SizeOf.sizeOf t
decreasing_by exact Vl.lt_kid (List.getElem_mem _)

theorem wt_tyOf : ∀ (t : Vl), PV t → Wt (tyOf t)
  | .mk kd tx ks kids, h => by
    have hk := h.out.1
    have hkid : ∀ i (hi : i < kids.length), Wt (tyOf kids[i]) := fun i hi => wt_tyOf kids[i] (h.kid (t := .mk kd tx ks kids) hi)
    have he : tyOf (.mk kd tx ks kids) = if kd = 0 then .mk 1 [] [] [] else if kd = 1 ∨ kd = 2 then .mk 2 [] [] [] else if kd = 3 then .mk 3 [] [] [] else if kd = 4 then .mk 4 [] [] []
      else if kd = 5 then .mk 5 [] (kids.map tyOf) [] else .mk 6 (ks.map fun k => ⟨4, k⟩) (kids.map tyOf) [] := by rw [tyOf]
    have hflat : ∀ n : Int, n ≠ 10 → Wt (.mk n [] [] []) := fun n hn => .mk hn (Nat.le_refl _) (by simp) (by simp)
    have hmap : ∀ k ∈ kids.map tyOf, Wt k := fun k hk => by
      obtain ⟨k', hk', rfl⟩ := List.mem_map.1 hk
      obtain ⟨i, hi, rfl⟩ := List.getElem_of_mem hk'
      exact hkid i hi
    rw [he]
    by_cases h0 : kd = 0
    · rw [if_pos h0]; exact hflat 1 (by decide)
    rw [if_neg h0]
    by_cases h1 : kd = 1 ∨ kd = 2
    · rw [if_pos h1]; exact hflat 2 (by decide)
    rw [if_neg h1]
    by_cases h3 : kd = 3
    · rw [if_pos h3]; exact hflat 3 (by decide)
    rw [if_neg h3]
    by_cases h4 : kd = 4
    · rw [if_pos h4]; exact hflat 4 (by decide)
    rw [if_neg h4]
    by_cases h5 : kd = 5
    · rw [if_pos h5]; exact .mk (by decide) (Nat.zero_le _) hmap (by simp)
    · rw [if_neg h5]; exact .mk (by decide) (by simp; have := h.out.2.2.2.2.1 (by omega); omega) hmap (by simp)
termination_by t => SizeOf.sizeOf t
decreasing_by exact Vl.lt_kid (List.getElem_mem _)
theorem wv_of : ∀ (t : Vl), PV t → Wv t
  | .mk kd tx ks kids, h => by
    have hkid : ∀ i (hi : i < kids.length), Wv kids[i] := fun i hi => wv_of kids[i] (h.kid (t := .mk kd tx ks kids) hi)
    refine .mk ?_ (fun k hk => ?_)
    · by_cases h6 : kd = 6
      · have := h.out.2.2.2.2.1 h6; omega
      · have := h.out.2.2.2.2.2.1 h6; omega
    · obtain ⟨i, hi, rfl⟩ := List.getElem_of_mem hk
      exact hkid i hi
termination_by t => SizeOf.sizeOf t
decreasing_by exact Vl.lt_kid (List.getElem_mem _)

theorem bad_not : ¬ PV badV := fun h => by have := h.kind; simp [badV, Vl.kind] at this
/-- What a proper value of the reference says. -/
theorem val_proper {t : Vl} (h : PV (valOf t)) : valOf t = t ∧ WV t ≤ 5000 ∧ PV t := by
  unfold valOf at h ⊢
  by_cases hw : WV t ≤ 5000
  · rw [if_pos hw] at h ⊢; exact ⟨rfl, hw, h⟩
  · rw [if_neg hw] at h; exact absurd h bad_not
theorem bd_val {t : Vl} (h : BdV t) : BdV (valOf t) := by
  unfold valOf
  by_cases hw : WV t ≤ 5000
  · rw [if_pos hw]; exact h
  · rw [if_neg hw]; exact .mk (by decide) (by simp) (by simp) (by simp) (by simp)
theorem given_toI {t : ST} (h : WS t ≤ 1000000) : givenOf (toI t) = t := by
  unfold givenOf; rw [if_pos (by rw [WI_toI]; exact h), toS_toI]
end Go.Proofs.YtaglgokeejjagaaGreat
