/- 'mergeObjects' at all object types; a sort of a row that is sorted; 'NewObject' over it. -/
import Derived.Test.YtaglgokeejjagaaGreatMoW
namespace Go.Proofs.YtaglgokeejjagaaGreat
set_option linter.unusedVariables false
set_option linter.unusedSimpArgs false
open Go.RowKit Go.Sort Go.Shelf

theorem mo_rec (n : Nat) : ∀ s t, SizeOf.sizeOf s + SizeOf.sizeOf t < n → MoC s t := by
  induction n with
  | zero => intro s t h; exact absurd h (Nat.not_lt_zero _)
  | succ n ih =>
    intro s t hn m x y w hx hy hm hw
    obtain ⟨ba, PA, aa, ca, psa, xsa, dva, ma, rfl, rfl, hA, hda, hDA⟩ := obM_of hx
    obtain ⟨bb, PB, ab, cb, psb, xsb, dvb, mb, rfl, rfl, hB, hdb, hDB⟩ := obM_of hy
    obtain ⟨da, rfl⟩ := hDA.ptr
    obtain ⟨db, rfl⟩ := hDB.ptr
    refine (mo_all (Lib.hid fun s' t' ⟨p, hp, e⟩ ⟨q, hq, e'⟩ => ih s' t' ?_) (Lib.hid fun s' t' h h' => ih s' t' ?_) hA hB hda hdb hDA hDB hm (by rw [ws_obj, ws_obj] at hw; omega)).mono fun e w' ⟨p, r, hr, h⟩ => ⟨p, r, ⟨PA, ma, PB, mb, rfl, rfl, hr⟩, h⟩
    · have h1 := ST.lt_more' (t := .mk 6 (PA.map fun x => kyOf x.1) (PA.map (·.2)) ma) (k := s') h
      have h2 := ST.lt_more' (t := .mk 6 (PB.map fun x => kyOf x.1) (PB.map (·.2)) mb) (k := t') h'
      omega
    · have h1 := ST.lt_kid' (t := .mk 6 (PA.map fun x => kyOf x.1) (PA.map (·.2)) ma) (k := s') (by simp only [ST.kids]; rw [← e]; exact List.mem_map_of_mem hp)
      have h2 := ST.lt_kid' (t := .mk 6 (PB.map fun x => kyOf x.1) (PB.map (·.2)) mb) (k := t') (by simp only [ST.kids]; rw [← e']; exact List.mem_map_of_mem hq)
      omega
theorem mo_any (s t : ST) : MoC s t := mo_rec _ s t (Nat.lt_succ_self _)

theorem pw_range (n : Nat) : (List.range n).Pairwise (fun a b => a ≤ b) := by
  rw [List.pairwise_iff_getElem]
  intro i j hi hj hij
  simp; omega
/-- A sort of a row whose keys rise: nothing turns. -/
theorem sortOld {m : Mem} {w : World} {b c : Nat} {P : List Pr} {a : Option Addr} {ps : List Nat} {xs : List Value} (ho : ObM m b P a c ps xs) (hm : MLe m (ucell w)) (hn : P.length ≤ 100000) :
    Calls Tryz.prog 117 #[.slice a P.length c, .func (.func 109) #[] #[]] w (fun e w' => e = .returned (.tuple #[]) ∧ Gr w w') := by
  obtain ⟨_, lk, hp, _, r, e0, _, _, so⟩ := ho
  by_cases h0 : P.length = 0
  · rw [h0]
    exact (srt117_none a c w).mono fun e w' ⟨h1, h2⟩ => ⟨h1, by rw [h2]; exact Gr.refl _⟩
  · have hpos : 0 < P.length := by omega
    have hpl : ∀ i, (if i < P.length then i else 0) < P.length := fun i => by split <;> omega
    obtain ⟨rb, off, ea, _⟩ := r.at (show 0 < (ps.map fun p => Value.pointer (some ⟨p, 0, none⟩)).length by simp; omega)
    subst ea
    have hrow : ∀ j (h : j < P.length), m ⟨rb, off + j, none⟩ = some (.pointer (some ⟨ps[j]'(by omega), 0, none⟩)) := fun j h => by
      obtain ⟨rb', off', e, hx⟩ := r.at (show j < (ps.map fun p => Value.pointer (some ⟨p, 0, none⟩)).length by simp; omega)
      cases e
      rw [List.getElem_map] at hx
      exact hx
    obtain ⟨rc, rT, hrb⟩ := ucell_heap (hm _ _ (hrow 0 hpos))
    have hblk : rb < w.heap.size := lt_blk hrb
    let g : Nat → Nat := fun i => if i < P.length then i else 0
    have hg : ∀ i, g i < P.length := hpl
    have hgi : ∀ i, i < P.length → g i = i := fun i h => if_pos h
    let enc : Nat → Value := fun i => .pointer (some ⟨ps[g i]'(by rw [hp]; exact hg i), 0, none⟩)
    let f : Nat → AK := fun i => (P[g i]'(hg i)).1
    have hkey : ∀ i, m ⟨ps[g i]'(by rw [hp]; exact hg i), 0, none⟩ = some (f i).v := fun i => e0 (g i) (by rw [hp]; exact hg i) (hg i)
    have hcell : ∀ (m' : Nat) (os : Array Obj) (dk : Array Nat), dk.size = P.length → ∀ i, (sortWorld enc w rb off m' dk os).cell? ⟨ps[g i]'(by rw [hp]; exact hg i), 0, none⟩ = some (f i).v := fun m' os dk hs i => by
      have hc := ucell_le _ _ (hm _ _ (hkey i))
      have hlt := World.block_lt_of_cell? _ _ hc
      unfold sortWorld
      rw [World.cell?_of_block (a := ⟨ps[g i]'(by rw [hp]; exact hg i), 0, none⟩) (heap_grow_old _ _ (by simpa using hlt))]
      rw [cell?_putRow_other]
      · exact hc
      · by_cases hb : ps[g i]'(by rw [hp]; exact hg i) = rb
        · rcases Nat.eq_zero_or_pos off with h | h
          · exfalso
            have h1 := hkey i
            have h2 := hrow 0 hpos
            rw [hb] at h1
            rw [h] at h2
            rw [h1] at h2
            have h3 := Option.some.inj h2
            rcases (f i).shape with h4 | ⟨T, y, h4⟩ <;> (rw [h4] at h3; cases h3)
          · exact .inr (.inl h)
        · exact .inl hb
    have hds : (List.range P.length).toArray.size = P.length := by simp
    have hH : Holds enc w rb off (List.range P.length).toArray := by
      intro j hj
      rw [hds] at hj
      refine ⟨?_, froz_blk hrb _⟩
      rw [ucell_le _ _ (hm _ _ (hrow j hj))]
      simp only [enc, hj, List.getElem!_toArray, hgi]
      congr 3
      simp [hj, hgi]
    have hrun := Any.slices_SortFunc (P := Tryz.prog) (ρ := Tryz.sortSP_ren) Tryz.sortSP enc (fun i => rfl) (fun x y => AK.cmp (f x) (f y)) (AK.swo fun i => f i) 109 #[] rb off c (List.range P.length).toArray w enters109
      (by
        intro m' os dk hs x y
        rw [hds] at hs
        exact (cmpSpKey_any _ _ _ _ _ (hcell m' os dk hs x) (hcell m' os dk hs y)).mono fun e w' h => ⟨h.1, by obtain ⟨q, os', h⟩ := h.2; exact ⟨q, os', h⟩⟩)
      hH hblk (by rw [hds]; omega)
    rw [hds] at hrun
    refine hrun.mono ?_
    rintro e w' ⟨rfl, d', n, os, hpm, hs, rfl⟩
    refine ⟨rfl, ?_⟩
    obtain ⟨hp1, _, hp3⟩ := hpm
    rw [hds] at hp1
    have hperm : d'.toList.Perm (List.range P.length) := by
      have e1 : d'.extract 0 P.length = d' := by rw [← hp1]; simp
      have e2 : (List.range P.length).toArray.extract 0 P.length = (List.range P.length).toArray := by
        conv => lhs; rw [← hds]
        simp
      rw [e1, e2] at hp3
      simpa using hp3
    have hmem : ∀ i ∈ d'.toList, i < P.length := fun i hi => List.mem_range.1 (hperm.mem_iff.1 hi)
    have hle : d'.toList.Pairwise (fun a b => a ≤ b) := by
      rw [List.pairwise_iff_getElem]
      intro i j hi hj hij
      have hi' : i < d'.size := by simpa using hi
      have hj' : j < d'.size := by simpa using hj
      have hsd := hs i j (Nat.zero_le _) hij (by omega)
      rw [getElem!_pos d' j hj', getElem!_pos d' i hi'] at hsd
      have hnl := (AK.ltOf_not (fun i => f i) d'[j] d'[i]).1 hsd
      have ki := hmem _ (List.getElem_mem hi)
      have kj := hmem _ (List.getElem_mem hj)
      simp only [Array.getElem_toList] at ki kj ⊢
      refine Nat.le_of_not_lt fun hlt => hnl ?_
      have h := (List.pairwise_iff_getElem.1 so) d'[j] d'[i] (by simpa using kj) (by simpa using ki) hlt
      simp only [List.getElem_map] at h
      simp only [f, hgi _ ki, hgi _ kj]
      exact h
    have heq : d'.toList = List.range P.length := List.Perm.eq_of_pairwise (le := fun a b => a ≤ b) (fun a b _ _ h1 h2 => Nat.le_antisymm h1 h2) hle (pw_range _) hperm
    have hd : d' = (List.range P.length).toArray := by rw [← heq]
    rw [hd]
    unfold sortWorld
    rw [putRow_self enc (Sort.ahead w n) rb off _ hH]
    exact ⟨n, os, rfl⟩
theorem zzOld {m : Mem} {w : World} {b c : Nat} {P : List Pr} {a : Option Addr} {ps : List Nat} {xs : List Value} (ho : ObM m b P a c ps xs) (hm : MLe m (ucell w)) (hn : P.length ≤ 100000) :
    Calls Tryz.prog 108 #[.slice a P.length c, .func (.func 109) #[] #[]] w (fun e w' => e = .returned (.slice a P.length c) ∧ Gr w w') := by
  have HC := Lib.hid (sortOld ho hm hn)
  clear ho hm hn
  go_enter Tryz.func108, Tryz.ntmps108
  go_wp2_with (go_at_call 117; refine HC.out.mono ?_; rintro e w2 ⟨rfl, hg⟩)
  go_ret
  exact ⟨rfl, hg⟩
theorem newObjectOld {m : Mem} {w : World} {b c : Nat} {P : List Pr} {a : Option Addr} {ps : List Nat} {xs : List Value} {d : Option Addr} (ho : ObM m b P a c ps xs) (hm : MLe m (ucell w)) (hn : P.length ≤ 100000) :
    Calls Tryz.prog 82 #[.slice a P.length c, .pointer d] w (fun e w' => ∃ b', e = .returned (.pointer (some ⟨b', 0, none⟩)) ∧ w.heap.size ≤ b' ∧ w'.heap[b']? = some (.cells #[.slice a P.length c, .pointer d] 154 (0, 0)) ∧ Gr w w') := by
  have HC := Lib.hid (zzOld ho hm hn)
  clear ho hm hn
  go_enter Tryz.func82, Tryz.ntmps82
  go_wp2_with (go_at_call 108; refine HC.out.mono ?_; rintro e w2 ⟨rfl, hg⟩)
  go_ret
  exact ⟨_, rfl, hg.below.size, al_new rfl, hg.alloc _⟩
/-- An object type over static properties that lie there already. -/
theorem ObM.object {m : Mem} {B b b' c : Nat} {w : World} {P : List Pr} {a : Option Addr} {ps : List Nat} {xs : List Value} {dv : Value} {more : List ST} (ho : ObM m b P a c ps xs) (hl : Lo m B) (hB : B ≤ b') (hb : w.heap[b']? = some (.cells #[.slice a P.length c, dv] 154 (0, 0))) (hd : DyM (fr m B w none) dv more) :
    RT (fr m B w none) (.iface 80 (.pointer (some ⟨b', 0, none⟩))) (.mk 6 (P.map fun x => kyOf x.1) (P.map (·.2)) more) := by
  obtain ⟨_, lk, hp, hx, r, e0, e1, e, so⟩ := ho
  have hf : MLe m (fr m B w none) := fr_old hl
  have e9 : (P.map fun x => kyOf x.1) = (P.map (·.1)).map kyOf := by simp
  rw [e9]
  obtain ⟨ds, hd1, hd2⟩ : ∃ ds : List Value, (dv = .pointer none ∧ more = [] ∨ ∃ q, dv = .pointer (some ⟨q, 0, none⟩) ∧ ds.length = 2 ∧ more.length = 2 ∧ ∀ i (h : i < ds.length), fr m B w none ⟨q, i, none⟩ = some ds[i]) ∧ ∀ i (h1 : i < ds.length) (h2 : i < more.length), RT (fr m B w none) ds[i] more[i] := by
    rcases hd with ⟨g1, g2⟩ | ⟨q, x1, x2, s1, s2, g1, rfl, g3, g4, g5, g6⟩
    · exact ⟨[], .inl ⟨g1, g2⟩, fun i h => absurd h (Nat.not_lt_zero _)⟩
    · refine ⟨[x1, x2], .inr ⟨q, g1, rfl, rfl, fun i hi => ?_⟩, fun i hi _ => ?_⟩
      · match i, hi with
        | 0, _ => exact g3
        | 1, _ => exact g4
        | n + 2, hi => exact absurd hi (by simp)
      · match i, hi with
        | 0, _ => exact g5
        | 1, _ => exact g6
        | n + 2, hi => exact absurd hi (by simp)
  refine RT.obj (kids := P.map (·.2)) (ps := ps) (xs := xs) (ks := P.map (·.1)) (dv := dv) (ds := ds) (a := a) (c := c) (by rw [List.length_map]; exact fr_at hB hb rfl) (fr_at hB hb rfl) (by rw [List.length_map]; exact lk) (by simp [hp]) (by simp [hx]) (by simp) (r.mono hf) ?_ (fun i h h1 => hf _ _ (e1 i h h1)) ?_ so hd1 hd2
  · intro i h h1
    rw [List.getElem_map]
    exact hf _ _ (e0 i h (by simpa using h1))
  · intro i h1 h2
    rw [List.getElem_map]
    exact (e i h1 (by simpa using h2)).mono hf
end Go.Proofs.YtaglgokeejjagaaGreat
