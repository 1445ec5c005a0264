/- 'Over' of two objects, and what the merge of two object types has: plain laws. -/
import Derived.Test.YtaglgokeejjagaaGreatMoS
import Derived.Test.YtaglgokeejjagaaGreatValW
namespace Go.Proofs.YtaglgokeejjagaaGreat
set_option linter.unusedVariables false
set_option linter.unusedSimpArgs false
open Go.RowKit

theorem less_tri (a b : ByteArray) : Less a b ∨ a = b ∨ Less b a := by
  rw [less_iff, less_iff]
  by_cases h1 : a.toList < b.toList
  · exact .inl h1
  · by_cases h2 : b.toList < a.toList
    · exact .inr (.inr h2)
    · exact .inr (.inl (ba_ext (List.le_antisymm (List.not_lt.1 h2) (List.not_lt.1 h1))))
abbrev KV := ByteArray × Vl
/-- Between two rounds of 'Over'. -/
structure OvI (v u : Vl) (i j : Nat) (out : List KV) : Prop where
  hi : i ≤ v.keys.length
  hj : j ≤ u.keys.length
  snd : ∀ l (h : l < u.keys.length) (h2 : l < u.kids.length), l < j → (u.keys[l], u.kids[l]) ∈ out
  fst : ∀ l (h : l < v.keys.length) (h2 : l < v.kids.length), l < i → (v.keys[l], v.kids[l]) ∈ out ∨ v.keys[l] ∈ u.keys
  src : ∀ p ∈ out, (∃ l, ∃ h : l < u.keys.length, ∃ h2 : l < u.kids.length, p = (u.keys[l], u.kids[l])) ∨ ∃ l, ∃ h : l < v.keys.length, ∃ h2 : l < v.kids.length, p = (v.keys[l], v.kids[l]) ∧ v.keys[l] ∉ u.keys
  ord : out.Pairwise (fun p q => Less p.1 q.1)
  lv : ∀ p ∈ out, ∀ h : i < v.keys.length, Less p.1 v.keys[i]
  lu : ∀ p ∈ out, ∀ h : j < u.keys.length, Less p.1 u.keys[j]
  len : out.length ≤ i + j
theorem ovI_start (v u : Vl) : OvI v u 0 0 [] := ⟨Nat.zero_le _, Nat.zero_le _, fun l _ _ h => absurd h (Nat.not_lt_zero _), fun l _ _ h => absurd h (Nat.not_lt_zero _), by simp, .nil, by simp, by simp, Nat.le_refl _⟩
theorem ovI_v {v u : Vl} {i j : Nat} {out : List KV} (h : OvI v u i j out) (hv : PV v) (hu : PV u) (kv : v.kind = 6) (ku : u.kind = 6) (hi : i < v.keys.length) (hik : i < v.kids.length) (hj : ∀ h : j < u.keys.length, Less v.keys[i] u.keys[j]) :
    OvI v u (i + 1) j (out ++ [(v.keys[i], v.kids[i])]) := by
  have cv := chain_less (hv.less kv)
  have cu := chain_less (hu.less ku)
  have hlu := hu.len ku
  refine ⟨hi, h.hj, fun l h1 h2 h3 => List.mem_append_left _ (h.snd l h1 h2 h3), fun l h1 h2 h3 => ?_, fun p hp => ?_, ?_, fun p hp hl => ?_, fun p hp hl => ?_, by have := h.len; simp; omega⟩
  · by_cases e : l < i
    · rcases h.fst l h1 h2 e with g | g
      · exact .inl (List.mem_append_left _ g)
      · exact .inr g
    · obtain rfl : l = i := by omega
      exact .inl (by simp)
  · rcases List.mem_append.1 hp with g | g
    · exact h.src p g
    · simp at g
      subst g
      refine .inr ⟨i, hi, hik, rfl, fun hm => ?_⟩
      obtain ⟨l, hl, e⟩ := List.getElem_of_mem hm
      by_cases hlj : l < j
      · have := h.lv _ (h.snd l hl (by omega) hlj) hi
        simp only [e] at this
        exact less_irrefl this
      · have hjl : j < u.keys.length := by omega
        have h1 := hj hjl
        rw [← e] at h1
        by_cases hjl2 : j = l
        · subst hjl2; exact less_irrefl h1
        · exact less_irrefl (less_trans h1 (cu j l (by omega) hl))
  · rw [List.pairwise_append]
    refine ⟨h.ord, by simp, fun p hp q hq => ?_⟩
    simp at hq; subst hq
    exact h.lv p hp hi
  · have hs := cv i (i + 1) (by omega) hl
    rcases List.mem_append.1 hp with g | g
    · exact less_trans (h.lv p g hi) hs
    · simp at g; subst g; exact hs
  · rcases List.mem_append.1 hp with g | g
    · exact h.lu p g hl
    · simp at g; subst g; exact hj hl
theorem ovI_u {v u : Vl} {i j : Nat} {out : List KV} (h : OvI v u i j out) (hv : PV v) (hu : PV u) (kv : v.kind = 6) (ku : u.kind = 6) (hj : j < u.keys.length) (hjk : j < u.kids.length) (hi : ∀ h : i < v.keys.length, Less u.keys[j] v.keys[i]) :
    OvI v u i (j + 1) (out ++ [(u.keys[j], u.kids[j])]) := by
  have cu := chain_less (hu.less ku)
  refine ⟨h.hi, hj, fun l h1 h2 h3 => ?_, fun l h1 h2 h3 => ?_, fun p hp => ?_, ?_, fun p hp hl => ?_, fun p hp hl => ?_, by have := h.len; simp; omega⟩
  · by_cases e : l < j
    · exact List.mem_append_left _ (h.snd l h1 h2 e)
    · obtain rfl : l = j := by omega
      simp
  · rcases h.fst l h1 h2 h3 with g | g
    · exact .inl (List.mem_append_left _ g)
    · exact .inr g
  · rcases List.mem_append.1 hp with g | g
    · exact h.src p g
    · simp at g
      exact .inl ⟨j, hj, hjk, g⟩
  · rw [List.pairwise_append]
    refine ⟨h.ord, by simp, fun p hp q hq => ?_⟩
    simp at hq; subst hq
    exact h.lu p hp hj
  · rcases List.mem_append.1 hp with g | g
    · exact h.lv p g hl
    · simp at g; subst g; exact hi hl
  · have hs := cu j (j + 1) (by omega) hl
    rcases List.mem_append.1 hp with g | g
    · exact less_trans (h.lu p g hj) hs
    · simp at g; subst g; exact hs
theorem ovI_both {v u : Vl} {i j : Nat} {out : List KV} (h : OvI v u i j out) (hv : PV v) (hu : PV u) (kv : v.kind = 6) (ku : u.kind = 6) (hi : i < v.keys.length) (hj : j < u.keys.length) (hjk : j < u.kids.length) (e : v.keys[i] = u.keys[j]) :
    OvI v u (i + 1) (j + 1) (out ++ [(u.keys[j], u.kids[j])]) := by
  have cv := chain_less (hv.less kv)
  have h' : OvI v u (i + 1) j out := by
    refine ⟨hi, h.hj, h.snd, fun l h1 h2 h3 => ?_, h.src, h.ord, fun p hp hl => less_trans (h.lv p hp hi) (cv i (i + 1) (by omega) hl), h.lu, by have := h.len; omega⟩
    by_cases g : l < i
    · exact h.fst l h1 h2 g
    · obtain rfl : l = i := by omega
      exact .inr (by rw [e]; exact List.getElem_mem hj)
  exact ovI_u h' hv hu kv ku hj hjk (fun hl => by rw [← e]; exact cv i (i + 1) (by omega) hl)
/-- An object of these entries. -/
def obV (out : List KV) : Vl := .mk 6 ⟨#[]⟩ (out.map (·.1)) (out.map (·.2))
theorem ov_pv {v u : Vl} {i j : Nat} {out : List KV} (h : OvI v u i j out) (hv : PV v) (hu : PV u) : PV (obV out) := by
  refine .mk (by omega) (.inl (by rw [Lib.toList_data])) (fun e => by omega) (.inr (.inr rfl)) (fun _ => by simp) (fun e => absurd rfl e) (fun _ i hi => ?_) (fun i hi => ?_)
  · have := (List.pairwise_iff_getElem.1 h.ord) i (i + 1) (by simp at hi; omega) (by simpa using hi) (by omega)
    simpa using this
  · have hil : i < out.length := by simpa using hi
    rw [List.getElem_map]
    rcases h.src _ (List.getElem_mem hil) with ⟨l, h1, h2, e⟩ | ⟨l, h1, h2, e, _⟩
    · rw [e]; exact hu.kid h2
    · rw [e]; exact hv.kid h2
/-- The whole of it. -/
def OvR (v u : Vl) (out : List KV) : Prop := OvI v u v.keys.length u.keys.length out

theorem bt_obj {s : ST} (h : BT s) (k : s.kind = 6) : ∃ ks : List AK, s.keys = ks.map kyOf ∧ ks.Nodup ∧ (nrm s).keys.Perm s.keys ∧ (nrm s).more = s.more.map nrm ∧ (s.more.length = 0 ∨ s.more.length = 2) := by
  cases h with
  | null | bool | num | str | arr | set | any => simp [ST.kind] at k
  | @obj ks kids more hk hd h1 h2 h3 =>
    have hl : ks.length = (kids.map nrm).length := by simpa using hk
    refine ⟨ks, rfl, hd, ?_, ?_, h2⟩
    · rw [nrm_6]
      simp only [ST.keys]
      rw [kyOf_map]
      exact (objP_keys hl).map kyOf
    · rw [nrm_6]; simp only [ST.more]
/-- The properties of a type as the package keeps them. -/
theorem pa_keys {s : ST} {pa : List Pr} {ma : List ST} (h : BT s) (k : s.kind = 6) (e : nrm s = .mk 6 (pa.map fun x => kyOf x.1) (pa.map (·.2)) ma) :
    (pa.map (·.1)).Nodup ∧ (∀ key : ByteArray, (stat s.keys key).isSome = true ↔ ∃ p ∈ pa, p.1 = .text key) ∧ (∀ p ∈ pa, kyOf p.1 ∈ s.keys) ∧ ma = s.more.map nrm ∧ (ma.length = 0 ∨ ma.length = 2) := by
  obtain ⟨ks, e1, hd, hp, hm, hl⟩ := bt_obj h k
  rw [e] at hp hm
  replace hp : (pa.map fun x => kyOf x.1).Perm s.keys := hp
  replace hm : ma = s.more.map nrm := hm
  rw [e1] at hp ⊢
  have hq := hp.map akOf
  have e2 : (ks.map kyOf).map akOf = ks := by
    rw [List.map_map]; exact (List.map_congr_left (g := id) (fun k _ => akOf_kyOf k)).trans (List.map_id _)
  have e3 : (pa.map fun x => kyOf x.1).map akOf = pa.map (·.1) := by
    rw [List.map_map]; exact List.map_congr_left fun k _ => akOf_kyOf k.1
  rw [e2, e3] at hq
  refine ⟨hq.nodup_iff.2 hd, fun key => ?_, fun p hpa => ?_, hm, by rw [hm]; simpa using hl⟩
  · rw [stat_some_mem, ← hq.mem_iff]
    constructor
    · intro h
      obtain ⟨p, h1, h2⟩ := List.mem_map.1 h
      exact ⟨p, h1, h2⟩
    · rintro ⟨p, h1, h2⟩
      exact List.mem_map.2 ⟨p, h1, h2⟩
  · exact hp.mem_iff.1 (List.mem_map.2 ⟨p, hpa, rfl⟩)
/-- The law of 'Merge': plain. -/
theorem merge_in {sa sb r : ST} {v u : Vl} {out : List KV} (ha : BT sa) (hb : BT sb) (ka : sa.kind = 6) (kb : sb.kind = 6) (hv : PV v) (hu : PV u) (iv : InP sa v) (iu : InP sb u)
    (hd : ∀ i (h : i < u.keys.length), (stat sa.keys u.keys[i]).isSome = true → (stat sb.keys u.keys[i]).isSome = true) (hp : ∀ i (h : i < sa.keys.length) j (g : j < sb.keys.length), sa.keys[i] ≠ sb.keys[j])
    (hm : sa.more = [] ∨ sb.more = []) (hr : MoSt (nrm sa) (nrm sb) r) (ho : OvR v u out) : InP r (obV out) := by
  obtain ⟨pa, ma, pb, mb, ea, eb, L, more, rfl, hL, hM⟩ := hr
  obtain ⟨na, sta, mka, ema, lma⟩ := pa_keys ha ka ea
  obtain ⟨nb, stb, mkb, emb, lmb⟩ := pa_keys hb kb eb
  have iv' := nrm_in ha v hv iv
  have iu' := nrm_in hb u hu iu
  rw [ea, inP_objQ na hv lma] at iv'
  rw [eb, inP_objQ nb hu lmb] at iu'
  obtain ⟨kv, va, vb⟩ := iv'
  obtain ⟨ku, ua, ub⟩ := iu'
  obtain ⟨L1, L2, L3, L4, _⟩ := hL
  have hlv := hv.len kv
  have hlu := hu.len ku
  have dis : ∀ p ∈ pa, ∀ q ∈ pb, p.1 ≠ q.1 := fun p h1 q h2 e => by
    obtain ⟨i, hi, ei⟩ := List.getElem_of_mem (mka p h1)
    obtain ⟨j, hj, ej⟩ := List.getElem_of_mem (mkb q h2)
    exact hp i hi j hj (by rw [ei, ej, e])
  have sub1 : ∀ p ∈ pa, p ∈ L := fun p h => L2 p h fun q hq e => dis p h q hq e.symm
  have sub2 : ∀ q ∈ pb, q ∈ L := fun q h => L3 q h fun p hq e => dis p hq q h e
  have back : ∀ p ∈ L, p ∈ pa ∨ p ∈ pb := fun p h => by
    obtain ⟨j, hj, e⟩ := List.getElem_of_mem h
    rcases L4 p h with ⟨q, hq, e2⟩ | ⟨q, hq, e2⟩
    · have := nodup_at L1 hj (sub1 q hq) (by rw [e2, e])
      rw [e] at this; subst this; exact .inl hq
    · have := nodup_at L1 hj (sub2 q hq) (by rw [e2, e])
      rw [e] at this; subst this; exact .inr hq
  have hmm : (ma = [] ∧ more = mb) ∨ (mb = [] ∧ more = ma) := by
    rcases hm with h | h
    · have : ma = [] := by rw [ema, h]; rfl
      exact .inl ⟨this, hM.1 this⟩
    · have : mb = [] := by rw [emb, h]; rfl
      exact .inr ⟨this, hM.2.1 this⟩
  have inU : ∀ k ∈ u.keys, k ∈ out.map (·.1) := fun k hk => by
    obtain ⟨l, hl, rfl⟩ := List.getElem_of_mem hk
    exact List.mem_map.2 ⟨_, ho.snd l hl (by omega) hl, rfl⟩
  have inV : ∀ k ∈ v.keys, k ∈ out.map (·.1) := fun k hk => by
    obtain ⟨l, hl, rfl⟩ := List.getElem_of_mem hk
    rcases ho.fst l hl (by omega) hl with h | h
    · exact List.mem_map.2 ⟨_, h, rfl⟩
    · exact inU _ h
  have hpv : PV (obV out) := ov_pv ho hv hu
  rw [inP_objQ L1 hpv (by rcases hmm with ⟨_, h⟩ | ⟨_, h⟩ <;> rw [h] <;> assumption)]
  refine ⟨rfl, fun p h => ?_, fun i hi hi2 => ?_⟩
  · rcases back p h with h | h
    · obtain ⟨n, hn, e⟩ := va p h; exact ⟨n, inV n hn, e⟩
    · obtain ⟨n, hn, e⟩ := ua p h; exact ⟨n, inU n hn, e⟩
  · simp only [obV, Vl.keys, Vl.kids, List.getElem_map] at hi hi2 ⊢
    have hil : i < out.length := by simpa using hi
    rcases ho.src _ (List.getElem_mem hil) with ⟨l, h1, h2, e⟩ | ⟨l, h1, h2, e, hno⟩
    · rw [e]
      simp only
      rcases ub l h1 h2 with ⟨s, hs, hin⟩ | ⟨hn, d, e2, emb2, q1, q2⟩
      · exact .inl ⟨s, sub2 _ hs, hin⟩
      · refine .inr ⟨fun p hpL ep => ?_, d, e2, ?_, q1, q2⟩
        · rcases back p hpL with h | h
          · obtain ⟨q, hq, eq⟩ := (stb _).1 (hd l h1 ((sta _).2 ⟨p, h, ep⟩))
            exact hn q hq eq
          · exact hn p h ep
        · rcases hmm with ⟨_, h⟩ | ⟨h, _⟩
          · rw [h, emb2]
          · rw [h] at emb2; cases emb2
    · rw [e]
      simp only
      rcases vb l h1 h2 with ⟨s, hs, hin⟩ | ⟨hn, d, e2, ema2, q1, q2⟩
      · exact .inl ⟨s, sub1 _ hs, hin⟩
      · refine .inr ⟨fun p hpL ep => ?_, d, e2, ?_, q1, q2⟩
        · rcases back p hpL with h | h
          · exact hn p h ep
          · obtain ⟨n, hn2, e3⟩ := ua p h
            rw [ep] at e3
            have := AK.text.inj e3
            exact hno (this ▸ hn2)
        · rcases hmm with ⟨h, _⟩ | ⟨_, h⟩
          · rw [h] at ema2; cases ema2
          · rw [h, ema2]
end Go.Proofs.YtaglgokeejjagaaGreat
