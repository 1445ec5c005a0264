/- What the merge of two object types has: plain laws. -/
import Derived.Test.YtaglgokeejjagaaGreatObjQ
namespace Go.Proofs.YtaglgokeejjagaaGreat
set_option linter.unusedVariables false
set_option linter.unusedSimpArgs false
open Go.RowKit

def pw (p : Pr) : Nat := 1 + (kyOf p.1).text.size + WS p.2
def PW (L : List Pr) : Nat := (L.map pw).sum
def WSs (L : List ST) : Nat := (L.map WS).sum
theorem pw_append (L M : List Pr) : PW (L ++ M) = PW L + PW M := by simp [PW]
theorem pw_one (p : Pr) : PW [p] = pw p := by simp [PW]
theorem pw_perm {L M : List Pr} (h : L.Perm M) : PW L = PW M := perm_sum pw h
theorem ws_obj (L : List Pr) (more : List ST) : WS (.mk 6 (L.map fun x => kyOf x.1) (L.map (·.2)) more) = 1 + PW L + WSs more := by
  rw [WS_eq]
  simp only [ST.keys, ST.kids, ST.more]
  have h : L.length + ((L.map fun x => kyOf x.1).map fun k => k.text.size).sum + ((L.map (·.2)).map WS).sum = PW L := by
    unfold PW
    induction L with
    | nil => rfl
    | cons p L ih => simp [pw] at ih ⊢; omega
  unfold WSs
  simp only [List.length_map] at h ⊢
  omega
theorem pw_mem {L : List Pr} {p : Pr} (h : p ∈ L) : pw p ≤ PW L := le_sum pw h
theorem pw_len (L : List Pr) : L.length ≤ PW L := sum_ge pw (fun p => by unfold pw; omega) L
theorem pw_set (L : List Pr) (j : Nat) (hj : j < L.length) (q : Pr) : PW (L.set j q) + pw L[j] = PW L + pw q := by
  unfold PW
  induction L generalizing j with
  | nil => exact absurd hj (Nat.not_lt_zero _)
  | cons p L ih =>
    cases j with
    | zero => simp; omega
    | succ j =>
      have := ih j (by simpa using hj)
      simp at this ⊢
      omega
/-- Between two rounds: pa are the properties of the first type, qb those of the second one that have been taken. -/
def MoI (pa qb T : List Pr) : Prop := (T.map (·.1)).Nodup ∧ (∀ p ∈ pa, (∀ q ∈ qb, q.1 ≠ p.1) → p ∈ T) ∧ (∀ q ∈ qb, (∀ p ∈ pa, p.1 ≠ q.1) → q ∈ T) ∧ (∀ p ∈ T, (∃ q ∈ pa, q.1 = p.1) ∨ ∃ q ∈ qb, q.1 = p.1) ∧ PW T ≤ PW pa + PW qb
theorem moI_start {pa : List Pr} (h : (pa.map (·.1)).Nodup) : MoI pa [] pa := ⟨h, fun p hp _ => hp, fun q hq => by simp at hq, fun p hp => .inl ⟨p, hp, rfl⟩, by simp [PW]⟩
theorem moI_new {pa qb T : List Pr} {q : Pr} (h : MoI pa qb T) (hq : ∀ p ∈ T, p.1 ≠ q.1) : MoI pa (qb ++ [q]) (T ++ [q]) := by
  obtain ⟨h1, h2, h3, h4, h5⟩ := h
  refine ⟨?_, fun p hp hn => List.mem_append_left _ (h2 p hp fun q' hq' => hn q' (List.mem_append_left _ hq')), fun q' hq' hn => ?_, fun p hp => ?_, ?_⟩
  · rw [List.map_append]
    refine List.nodup_append.2 ⟨h1, by simp, fun a ha b hb e => ?_⟩
    simp at hb
    obtain ⟨p, hp, rfl⟩ := List.mem_map.1 ha
    exact hq p hp (by rw [e, hb])
  · rcases List.mem_append.1 hq' with h | h
    · exact List.mem_append_left _ (h3 q' h hn)
    · exact List.mem_append_right _ h
  · rcases List.mem_append.1 hp with h | h
    · rcases h4 p h with ⟨q', h', e⟩ | ⟨q', h', e⟩
      · exact .inl ⟨q', h', e⟩
      · exact .inr ⟨q', List.mem_append_left _ h', e⟩
    · exact .inr ⟨p, List.mem_append_right _ h, rfl⟩
  · rw [pw_append, pw_append]; omega
theorem nodup_at {T : List Pr} (h : (T.map (·.1)).Nodup) {p : Pr} {j : Nat} (hj : j < T.length) (hp : p ∈ T) (e : p.1 = T[j].1) : p = T[j] := by
  obtain ⟨i, hi, rfl⟩ := List.getElem_of_mem hp
  have : i = j := nodup_inj h (by simpa using hi) (by simpa using hj) (by simpa using e)
  subst this; rfl
theorem moI_from {pa qb T : List Pr} {q : Pr} (h : MoI pa qb T) (hq : ∀ q' ∈ qb, q'.1 ≠ q.1) {j : Nat} (hj : j < T.length) (e : T[j].1 = q.1) : T[j] ∈ pa := by
  obtain ⟨h1, h2, h3, h4, h5⟩ := h
  rcases h4 T[j] (List.getElem_mem hj) with ⟨p, hp, ep⟩ | ⟨q', hq', eq⟩
  · have := h2 p hp (fun q' hq' e' => hq q' hq' (by rw [e', ep, e]))
    rw [← nodup_at h1 hj this ep]; exact hp
  · exact absurd (eq.trans e) (hq q' hq')
theorem moI_old {pa qb T : List Pr} {q : Pr} {r : ST} (h : MoI pa qb T) (hq : ∀ q' ∈ qb, q'.1 ≠ q.1) {j : Nat} (hj : j < T.length) (e : T[j].1 = q.1) (hw : WS r ≤ WS T[j].2 + WS q.2 + 1) : MoI pa (qb ++ [q]) (T.set j (q.1, r)) := by
  have hf := moI_from h hq hj e
  obtain ⟨h1, h2, h3, h4, h5⟩ := h
  have hm : ∀ p ∈ T, p.1 ≠ q.1 → p ∈ T.set j (q.1, r) := fun p hp hn => by
    obtain ⟨i, hi, rfl⟩ := List.getElem_of_mem hp
    have hij : j ≠ i := fun e' => by subst e'; exact hn e
    exact List.mem_iff_getElem.2 ⟨i, by simpa using hi, by rw [List.getElem_set_ne hij]⟩
  refine ⟨?_, fun p hp hn => hm p (h2 p hp fun q' hq' => hn q' (List.mem_append_left _ hq')) (fun e' => hn q (by simp) e'.symm), fun q' hq' hn => ?_, fun p hp => ?_, ?_⟩
  · have : (T.set j (q.1, r)).map (·.1) = T.map (·.1) := by
      rw [List.map_set]
      simp only
      refine List.ext_getElem (by simp) fun i h1 h2 => ?_
      rw [List.getElem_set]
      split
      · rename_i e'; subst e'; simp [e]
      · rfl
    rw [this]; exact h1
  · rcases List.mem_append.1 hq' with h | h
    · exact hm q' (h3 q' h hn) (hq q' h)
    · simp at h
      subst h
      exact absurd e (hn _ hf)
  · rcases List.mem_or_eq_of_mem_set hp with h | rfl
    · rcases h4 p h with ⟨q', h', e⟩ | ⟨q', h', e⟩
      · exact .inl ⟨q', h', e⟩
      · exact .inr ⟨q', List.mem_append_left _ h', e⟩
    · exact .inr ⟨q, by simp, rfl⟩
  · have := pw_set T j hj (q.1, r)
    rw [pw_append, pw_one]
    have e1 : pw (q.1, r) = 1 + (kyOf q.1).text.size + WS r := rfl
    have e2 : pw T[j] = 1 + (kyOf T[j].1).text.size + WS T[j].2 := rfl
    have e3 : pw q = 1 + (kyOf q.1).text.size + WS q.2 := rfl
    rw [e] at e2
    omega
theorem MoI.perm {pa qb T L : List Pr} (h : MoI pa qb T) (hp : L.Perm T) : MoI pa qb L := by
  obtain ⟨h1, h2, h3, h4, h5⟩ := h
  exact ⟨(hp.map (·.1)).nodup_iff.2 h1, fun p a b => hp.mem_iff.2 (h2 p a b), fun q a b => hp.mem_iff.2 (h3 q a b), fun p a => h4 p (hp.mem_iff.1 a), by rw [pw_perm hp]; exact h5⟩
/-- The dynamic ones. -/
def MoD (ma mb more : List ST) : Prop := (ma = [] → more = mb) ∧ (mb = [] → more = ma) ∧ WSs more ≤ WSs ma + WSs mb + 2
/-- What the merge of two object types is. -/
def MoR (pa : List Pr) (ma : List ST) (pb : List Pr) (mb : List ST) (r : ST) : Prop := ∃ L more, r = .mk 6 (L.map fun x => kyOf x.1) (L.map (·.2)) more ∧ MoI pa pb L ∧ MoD ma mb more
theorem MoR.w {pa : List Pr} {ma : List ST} {pb : List Pr} {mb : List ST} {r : ST} (h : MoR pa ma pb mb r) : WS r ≤ WS (.mk 6 (pa.map fun x => kyOf x.1) (pa.map (·.2)) ma) + WS (.mk 6 (pb.map fun x => kyOf x.1) (pb.map (·.2)) mb) + 1 := by
  obtain ⟨L, more, rfl, h1, h2⟩ := h
  rw [ws_obj, ws_obj, ws_obj]
  have := h1.2.2.2.2; have := h2.2.2
  omega
end Go.Proofs.YtaglgokeejjagaaGreat
