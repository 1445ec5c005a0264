/- Which values the types have that the package keeps: plain Lean. -/
import Derived.Test.YtaglgokeejjagaaGreatNrm
namespace Go.Proofs.YtaglgokeejjagaaGreat
set_option linter.unusedVariables false
set_option linter.unusedSimpArgs false
open Go.RowKit

theorem nodup_inj {α : Type} {l : List α} (h : l.Nodup) {i j : Nat} (hi : i < l.length) (hj : j < l.length) (e : l[i] = l[j]) : i = j := by
  have hp := List.pairwise_iff_getElem.1 h
  rcases Nat.lt_trichotomy i j with g | g | g
  · exact absurd e (hp i j hi hj g)
  · exact g
  · exact absurd e.symm (hp j i hj hi g)
theorem ba_ext {a b : ByteArray} (h : a.toList = b.toList) : a = b := by
  rw [Lib.toList_data, Lib.toList_data] at h
  cases a with | mk x => cases b with | mk y => cases x; cases y; simpa using h
theorem sKey_ak {key : ByteArray} {k : AK} : sKey key (kyOf k) = true ↔ k = .text key := by
  cases k with
  | none => simp [sKey, kyOf]
  | bool x => cases x <;> simp [sKey, kyOf]
  | text t =>
    simp only [sKey, kyOf, Bool.and_eq_true, beq_iff_eq, true_and, AK.text.injEq]
    exact ⟨ba_ext, fun h => by rw [h]⟩
theorem sKey_ak' {key : ByteArray} {k : AK} : sKey key (kyOf k) = false ↔ k ≠ .text key := by
  rw [Ne, ← sKey_ak, Bool.not_eq_true]
theorem stat_iff {ks : List AK} (hd : ks.Nodup) {key : ByteArray} {j : Nat} : stat (ks.map kyOf) key = some j ↔ ∃ h : j < ks.length, ks[j] = .text key := by
  constructor
  · intro h
    have hl := stat_lt h
    have ha := stat_at h
    rw [List.getElem_map, sKey_ak] at ha
    exact ⟨by simpa using hl, ha⟩
  · rintro ⟨h, e⟩
    unfold stat
    rw [List.findIdx?_eq_some_iff_getElem]
    refine ⟨by simpa using h, by rw [List.getElem_map, sKey_ak]; exact e, fun i hi => ?_⟩
    rw [List.getElem_map, Bool.not_eq_true, sKey_ak', ← e]
    intro e2
    have := nodup_inj hd _ _ e2
    omega
theorem stat_none_iff {ks : List AK} {key : ByteArray} : stat (ks.map kyOf) key = none ↔ AK.text key ∉ ks := by
  unfold stat
  rw [List.findIdx?_eq_none_iff]
  constructor
  · intro h hm
    have := h _ (List.mem_map_of_mem hm)
    rw [sKey_ak'] at this
    exact this rfl
  · intro h x hx
    obtain ⟨k, hk, rfl⟩ := List.mem_map.1 hx
    rw [sKey_ak']
    exact fun e => h (e ▸ hk)
theorem stat_some_mem {ks : List AK} {key : ByteArray} : (stat (ks.map kyOf) key).isSome = true ↔ AK.text key ∈ ks := by
  constructor
  · intro h
    refine Classical.byContradiction fun hn => ?_
    rw [stat_none_iff.2 hn] at h; cases h
  · intro h
    cases e : stat (ks.map kyOf) key with
    | none => exact absurd h (stat_none_iff.1 e)
    | some j => rfl
theorem hits_iff {ks : List AK} {names : List ByteArray} (hd : ks.Nodup) (hn : names.Nodup) : hits (ks.map kyOf) names = (ks.map kyOf).length ↔ ∀ k ∈ ks, ∃ n ∈ names, k = .text n := by
  have e : hits (ks.map kyOf) names = ((names.filter fun k => (stat (ks.map kyOf) k).isSome).map AK.text).length := by
    unfold hits; rw [List.length_map, List.countP_eq_length_filter]
  have hsub : ((names.filter fun k => (stat (ks.map kyOf) k).isSome).map AK.text) ⊆ ks := fun x hx => by
    obtain ⟨n, hn, rfl⟩ := List.mem_map.1 hx
    exact stat_some_mem.1 (List.mem_filter.1 hn).2
  have hnd : ((names.filter fun k => (stat (ks.map kyOf) k).isSome).map AK.text).Nodup := by
    rw [List.Nodup, List.pairwise_map]
    exact (hn.filter _).imp fun h e => h (AK.text.inj e)
  rw [e, show (ks.map kyOf).length = ks.length from List.length_map ..]
  constructor
  · intro h k hk
    have hmem : k ∈ ((names.filter fun k => (stat (ks.map kyOf) k).isSome).map AK.text) := by
      refine Classical.byContradiction fun hno => ?_
      have h2 : (k :: ((names.filter fun k => (stat (ks.map kyOf) k).isSome).map AK.text)).length ≤ ks.length :=
        List.Nodup.length_le_of_subset (List.nodup_cons.2 ⟨hno, hnd⟩) (List.cons_subset.2 ⟨hk, hsub⟩)
      rw [List.length_cons] at h2; omega
    obtain ⟨n, hn, rfl⟩ := List.mem_map.1 hmem
    exact ⟨n, (List.mem_filter.1 hn).1, rfl⟩
  · intro h
    have h1 := List.Nodup.length_le_of_subset hnd hsub
    have h2 : ks.length ≤ ((names.filter fun k => (stat (ks.map kyOf) k).isSome).map AK.text).length := List.Nodup.length_le_of_subset hd fun k hk => by
      obtain ⟨n, hn, rfl⟩ := h k hk
      exact List.mem_map.2 ⟨n, List.mem_filter.2 ⟨hn, stat_some_mem.2 hk⟩, rfl⟩
    omega

/-- The object type with these properties has the value. -/
def ObjQ (ps : List Pr) (more : List ST) (v : Vl) : Prop := v.kind = 6 ∧ (∀ p ∈ ps, ∃ n ∈ v.keys, p.1 = .text n) ∧
  ∀ i (h : i < v.keys.length) (h2 : i < v.kids.length), (∃ s, (AK.text v.keys[i], s) ∈ ps ∧ InP s v.kids[i]) ∨ ((∀ p ∈ ps, p.1 ≠ .text v.keys[i]) ∧ ∃ d e, more = [d, e] ∧ InP d (.mk 4 v.keys[i] [] []) ∧ InP e v.kids[i])
theorem PV.nodup {v : Vl} (h : PV v) (k : v.kind = 6) : v.keys.Nodup := by
  rw [List.Nodup, List.pairwise_iff_getElem]
  intro i j hi hj hij e
  have := h.dist k i j hi hj e
  omega
theorem inP_objQ {ps : List Pr} {more : List ST} {v : Vl} (hd : (ps.map (·.1)).Nodup) (hv : PV v) (hm : more.length = 0 ∨ more.length = 2) : InP (.mk 6 (ps.map fun x => kyOf x.1) (ps.map (·.2)) more) v ↔ ObjQ ps more v := by
  rw [inP_obj rfl, kyOf_map]
  unfold PropsP ObjQ
  simp only [ST.keys, ST.kids, ST.more]
  constructor
  · rintro ⟨h6, h1, h2, h3⟩
    rw [hits_iff hd (hv.nodup h6)] at h1
    refine ⟨h6, fun p hp => h1 _ (List.mem_map_of_mem hp), fun i hi hi2 => ?_⟩
    by_cases hs : stat ((ps.map (·.1)).map kyOf) v.keys[i] = none
    · obtain ⟨k1, k2, k3⟩ := h3 i hi hs
      refine .inr ⟨fun p hp e => stat_none_iff.1 hs (e ▸ List.mem_map_of_mem hp), ?_⟩
      match more, hm, k1, k2, k3 with
      | [d, e], _, _, k2, k3 => exact ⟨d, e, rfl, k2 d rfl, k3 e rfl hi2⟩
      | [], _, k1, _, _ => simp at k1
      | [_], _, k1, _, _ => simp at k1
      | _ :: _ :: _ :: _, hm, _, _, _ => simp at hm
    · obtain ⟨j, hj⟩ := Option.ne_none_iff_exists'.1 hs
      obtain ⟨hjl, e⟩ := (stat_iff hd).1 hj
      have hjl' : j < ps.length := by simpa using hjl
      have := h2 i hi j hj (by simpa using hjl') hi2
      rw [List.getElem_map] at this e
      exact .inl ⟨ps[j].2, by rw [← e]; exact List.getElem_mem hjl', this⟩
  · rintro ⟨h6, h1, h2⟩
    have hlen := hv.len h6
    refine ⟨h6, (hits_iff hd (hv.nodup h6)).2 fun k hk => ?_, fun i hi j hj hjl hi2 => ?_, fun i hi hs => ?_⟩
    · obtain ⟨p, hp, rfl⟩ := List.mem_map.1 hk; exact h1 p hp
    · obtain ⟨hjl', e⟩ := (stat_iff hd).1 hj
      have hjp : j < ps.length := by simpa using hjl'
      rw [List.getElem_map] at e ⊢
      rcases h2 i hi hi2 with ⟨s, hs, hin⟩ | ⟨hno, _⟩
      · obtain ⟨j', hj', e'⟩ := List.getElem_of_mem hs
        have : j = j' := by
          refine nodup_inj (l := ps.map (·.1)) hd (by simpa using hjp) (by simpa using hj') ?_
          rw [List.getElem_map, List.getElem_map, e, e']
        subst this
        rw [e']; exact hin
      · exact absurd e (hno _ (List.getElem_mem hjp))
    · rcases h2 i hi (by omega) with ⟨s, hs', hin⟩ | ⟨hno, d, e, rfl, k1, k2⟩
      · exact absurd (List.mem_map_of_mem (f := (·.1)) hs') (stat_none_iff.1 hs)
      · refine ⟨by simp, fun d' hd' => ?_, fun d' hd' hi2 => ?_⟩
        · simp at hd'; subst hd'; exact k1
        · simp at hd'; subst hd'; exact k2
theorem ObjQ.perm {ps ps' : List Pr} {more : List ST} {v : Vl} (h : ps.Perm ps') (k : ObjQ ps more v) : ObjQ ps' more v := by
  obtain ⟨h6, h1, h2⟩ := k
  refine ⟨h6, fun p hp => h1 p (h.mem_iff.2 hp), fun i hi hi2 => ?_⟩
  rcases h2 i hi hi2 with ⟨s, hs, hin⟩ | ⟨hno, r⟩
  · exact .inl ⟨s, h.mem_iff.1 hs, hin⟩
  · exact .inr ⟨fun p hp => hno p (h.mem_iff.2 hp), r⟩
theorem pv_str (k : ByteArray) : PV (.mk 4 k [] []) :=
  .mk (by omega) (.inr (.inr rfl)) (fun e => by omega) (.inl rfl) (fun e => by omega) (fun _ => rfl) (fun e => by omega) (fun i h => absurd h (Nat.not_lt_zero _))
theorem obj_zip {ks : List AK} {kids more : List ST} (h : ks.length = kids.length) : ST.mk 6 (ks.map kyOf) kids more = .mk 6 ((ks.zip kids).map fun x => kyOf x.1) ((ks.zip kids).map (·.2)) more := by
  rw [kyOf_map, zip_fst h, zip_snd h]
theorem zip_nodup {ks : List AK} {kids : List ST} (h : ks.length = kids.length) (hd : ks.Nodup) : ((ks.zip kids).map (·.1)).Nodup := by rw [zip_fst h]; exact hd
/-- What a type has its kept form has. -/
theorem nrm_in {s : ST} (h : BT s) : ∀ v, PV v → InP s v → InP (nrm s) v := by
  induction h with
  | null | bool | num | str => intro v _ hi; rw [nrm_o (by decide) (by decide)]; exact hi
  | @arr kids more h1 h2 h3 ih ih2 =>
    intro v hv hi
    rw [nrm_o (by decide) (by decide), inP_arr rfl]
    obtain ⟨k5, k1, k2, k3, k4⟩ := (inP_arr rfl).1 hi
    simp only [ST.kids, ST.more] at k1 k2 k3 k4
    refine ⟨k5, by simpa [ST.kids] using k1, fun e => ?_, fun i hi h2 => ?_, fun i hi hl d hd => ?_⟩
    · simp only [ST.kids, ST.more, List.length_map] at e ⊢; exact k2 e
    · simp only [ST.kids, List.length_map] at h2 ⊢
      rw [List.getElem_map]
      exact ih _ (List.getElem_mem h2) _ (hv.kid hi) (k3 i hi h2)
    · simp only [ST.kids, ST.more, List.length_map] at hl hd
      rw [List.getElem?_map] at hd
      obtain ⟨d0, e0, rfl⟩ := Option.map_eq_some_iff.1 hd
      exact ih2 _ (List.mem_of_getElem? e0) _ (hv.kid hi) (k4 i hi hl d0 e0)
  | @obj ks kids more hk hd h1 h2 h3 ih ih2 =>
    intro v hv hi
    have hl : ks.length = (kids.map nrm).length := by simpa using hk
    rw [obj_zip hk, inP_objQ (zip_nodup hk hd) hv h2] at hi
    have hpd : ((objP ks (kids.map nrm)).map (·.1)).Nodup := hd.perm (objP_keys hl).symm
    rw [nrm_6, inP_objQ hpd hv (by simpa using h2)]
    refine ObjQ.perm (objP_perm _ _).symm ?_
    obtain ⟨h6, k1, k2⟩ := hi
    have e1 : ks.zip (kids.map nrm) = (ks.zip kids).map fun x => (x.1, nrm x.2) := by rw [List.zip_map_right]; rfl
    rw [e1]
    refine ⟨h6, fun p hp => ?_, fun i hi hi2 => ?_⟩
    · obtain ⟨q, hq, rfl⟩ := List.mem_map.1 hp; exact k1 q hq
    · rcases k2 i hi hi2 with ⟨s, hs, hin⟩ | ⟨hno, d, e, rfl, q1, q2⟩
      · refine .inl ⟨nrm s, List.mem_map.2 ⟨_, hs, rfl⟩, ih s ?_ _ (hv.kid hi2) hin⟩
        have := List.mem_map_of_mem (f := (·.2)) hs
        rwa [zip_snd hk] at this
      · refine .inr ⟨fun p hp => ?_, nrm d, nrm e, rfl, ih2 d (by simp) _ (pv_str _) q1, ih2 e (by simp) _ (hv.kid hi2) q2⟩
        obtain ⟨q, hq, rfl⟩ := List.mem_map.1 hp; exact hno q hq
  | set h ih => intro v hv hi; exact absurd hi (inP_none ⟨by simp [ST.kind], by simp [ST.kind]⟩)
  | @any kids h1 ih =>
    intro v hv hi
    rw [nrm_8, inP_any rfl]
    rcases (inP_any rfl).1 hi with h0 | ⟨i, hi, hin⟩
    · exact .inl (by simp only [ST.kids] at h0 ⊢; rw [(srtT_perm _).length_eq, List.length_map]; exact h0)
    · simp only [ST.kids] at hi hin ⊢
      have hm : nrm kids[i] ∈ srtT (kids.map nrm) := (srtT_perm _).mem_iff.2 (List.mem_map_of_mem (List.getElem_mem hi))
      obtain ⟨j, hj, e⟩ := List.getElem_of_mem hm
      exact .inr ⟨j, hj, by rw [e]; exact ih _ (List.getElem_mem hi) v hv hin⟩
theorem NT.wt {s : ST} (h : NT s) : Wt s := by
  induction h with
  | null | bool | num | str => exact .mk (by decide) (Nat.le_refl _) (by simp) (by simp)
  | arr h1 h2 h3 ih ih2 => exact .mk (by decide) (Nat.zero_le _) ih ih2
  | obj hk so h1 h2 h3 ih ih2 => exact .mk (by decide) (by simp; omega) ih ih2
  | set h ih => exact .mk (by decide) (Nat.zero_le _) (fun k hk => by simp at hk; rw [hk]; exact ih) (by simp)
  | any h1 ih => exact .mk (by decide) (Nat.zero_le _) ih (by simp)
end Go.Proofs.YtaglgokeejjagaaGreat
