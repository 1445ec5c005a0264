/- The sort of types. -/
import Derived.Test.YtaglgokeejjagaaGreatSortT
import Derived.Test.YtaglgokeejjagaaGreatCmpE
import Derived.Test.YtaglgokeejjagaaGreatNrm
namespace Go.Proofs.YtaglgokeejjagaaGreat
set_option linter.unusedVariables false
set_option linter.unusedSimpArgs false
open Go.RowKit Go.Sort Go.Shelf

theorem enters48 : ∀ args w, (callFunc 48 args).run Tryz.prog w = .ok (.enter 48 args) w := enters_of Tryz.func48 (by kernel_rfl) rfl
theorem cmpT_lt1 {α : Type} (f : α → ST) (x y : α) : ltOf (fun x y => cmpT (f x) (f y)) x y = true ↔ cmpT (f x) (f y) < 0 := by unfold ltOf; simp
theorem cmpT_lt0 {α : Type} (f : α → ST) (x y : α) : ltOf (fun x y => cmpT (f x) (f y)) x y = false ↔ 0 ≤ cmpT (f x) (f y) := by unfold ltOf; simp
theorem cmpT_ge {s t u : ST} (h : 0 ≤ cmpT s t) (k : 0 ≤ cmpT t u) : 0 ≤ cmpT s u := by
  have h1 := cmpT_neg s t
  have h2 := cmpT_neg t u
  have h3 := cmpT_neg s u
  have := lexc_le_trans (x := code u) (y := code t) (z := code s) (by change cmpT _ _ ≤ 0; omega) (by change cmpT _ _ ≤ 0; omega)
  change cmpT _ _ ≤ 0 at this
  omega
theorem cmpT_swo {α : Type} (f : α → ST) : SWO (ltOf (fun x y => cmpT (f x) (f y))) where
  irrefl x := (cmpT_lt0 f x x).2 (by rw [cmpT_self]; exact Int.le_refl _)
  trans x y z h k := (cmpT_lt1 f x z).2 (lexc_trans ((cmpT_lt1 f x y).1 h) ((cmpT_lt1 f y z).1 k))
  ntrans x y z h k := (cmpT_lt0 f x z).2 (cmpT_ge ((cmpT_lt0 f x y).1 h) ((cmpT_lt0 f y z).1 k))

set_option maxHeartbeats 2000000 in
set_option maxRecDepth 100000 in
theorem srt118_none (p : Option Addr) (cap : Nat) (w : World) : Calls Tryz.prog 118 #[.slice p 0 cap, .func (.func 48) #[] #[]] w fun e w' => e = .returned (.tuple #[]) ∧ w' = w := by
  have HB := Lib.hid (Any.bits_Len (SlLaysF0.n15.bits (P := Tryz.prog) (ρ := Tryz.sortTP_ren) { Tryz.sortTP with }) 0 w (by omega) (by omega))
  have HP := Lib.hid (fun lim => AnyF.pdqsortCmpFunc_none (P := Tryz.prog) (ρ := Tryz.sortTP_ren) { Tryz.sortTP with } p cap lim (.func (.func 48) #[] #[]) w)
  go_enter Tryz.func118, Tryz.ntmps118
  go_wp2_with (first | (go_at_call 121; refine HB.out.mono ?_; rintro e w' ⟨rfl, hww⟩; have hww := hww.symm; subst hww) | (go_at_call 122; refine (HP.out _).mono ?_; rintro e w' ⟨rfl, hww⟩; have hww := hww.symm; subst hww))
  go_end0
  exact ⟨rfl, rfl⟩
set_option maxHeartbeats 2000000 in
set_option maxRecDepth 100000 in
theorem srt118 {α : Type} [Inhabited α] (enc : α → Value) (h1 : OneCell enc) (cf : α → α → Int) (hO : SWO (ltOf cf)) (blk cap : Nat) (d : Array α) (w : World)
    (hcmp : CmpLays1 Tryz.prog 48 #[] enc cf blk 0 d.size w) (hH : Holds enc w blk 0 d) (hblk : blk < w.heap.size) (hsz : d.size < 4611686018427387904) :
    Calls Tryz.prog 118 #[.slice (some ⟨blk, 0, none⟩) d.size cap, .func (.func 48) #[] #[]] w fun e w' =>
      e = .returned (.tuple #[]) ∧ ∃ d' n os, PermIn 0 d.size d d' ∧ SortedIn (ltOf cf) 0 d.size d' ∧ w' = sortWorld enc w blk 0 n d' os := by
  have hlim : Lib.bitLen d.size < 4611686018427387904 := Nat.lt_of_le_of_lt (Lib.bitLen_le d.size 62 (by omega) (by omega)) (by omega)
  have hp := Lib.hid (Any.pdqsortCmpFunc_all (P := Tryz.prog) (ρ := Tryz.sortTP_ren) Tryz.sortTP enc cf 48 #[] hO blk 0 cap d w enters48 hcmp ⟨h1, hH, hblk⟩ (d.size + 1) 0 d.size (Lib.bitLen d.size) d w (by omega) rfl (SW.start hH) (Nat.zero_le _) (Nat.le_refl _) hsz hlim (Or.inl rfl))
  have hl := Lib.hid (show Calls Tryz.prog 121 #[.int .u64 (d.size : Int)] w fun e w' => e = .returned (.int .i64 (Lib.bitLen d.size : Nat)) ∧ w' = w by
    have h := Any.bits_Len (SlLaysF0.n15.bits (P := Tryz.prog) (ρ := Tryz.sortTP_ren) { Tryz.sortTP with }) (d.size : Int) w (by omega) (by omega)
    rwa [Int.toNat_natCast] at h)
  have wr : IntKind.u64.wrap (d.size : Int) = d.size := by simp [IntKind.wrap, IntKind.bits, IntKind.signed]; omega
  have HS := Lib.hid (pdq_sorts (ltOf cf) hO d 0 d.size (Lib.bitLen d.size) true true (Nat.zero_le _) (Nat.le_refl _) (Or.inl rfl))
  clear hH hcmp h1
  go_enter Tryz.func118, Tryz.ntmps118
  go_wp2_with (first | (go_at_call 121; refine hl.out.mono ?_; rintro e w' ⟨rfl, hww⟩; have hww := hww.symm; subst hww) | (go_at_call 122; refine hp.out.mono ?_; rintro e w' ⟨rfl, n, os, rfl⟩))
  go_end0
  exact ⟨rfl, _, n, os, HS.out.1, HS.out.2, rfl⟩

def SrtQ (m : Mem) (B : Nat) (w : World) (v : Value) (l : List ST) (e : Ending) (w' : World) : Prop :=
  ∃ l' : List ST, e = .returned (.tuple #[]) ∧ l'.Perm l ∧ l'.Pairwise (fun a b => cmpT a b ≤ 0) ∧ Own ET m 74 1 B w' v l' ∧ w.grownBy w' v.ownBlock
set_option maxRecDepth 100000 in
theorem sort118 {m : Mem} {B : Nat} {w : World} {v : Value} {l : List ST} (hm : MLe m (ucell w)) (hl : Lo m B) (h : Own ET m 74 1 B w v l) (hn : l.length < 1000000) :
    Calls Tryz.prog 118 #[v, .func (.func 48) #[] #[]] w (SrtQ m B w v l) := by
  obtain ⟨xs, ho, hx⟩ := h
  have hxl : xs.length = l.length := by have := ho.1; omega
  by_cases h0 : l.length = 0
  · have hl0 : l = [] := List.eq_nil_of_length_eq_zero h0
    subst hl0
    have hsl : ∃ p cap, v = .slice p 0 cap := by
      rcases ho.2 with ⟨rfl, _⟩ | ⟨g, cap, cur, rfl, _⟩
      · exact ⟨_, _, rfl⟩
      · exact ⟨_, _, rfl⟩
    obtain ⟨p, cap, rfl⟩ := hsl
    refine (srt118_none p cap w).mono ?_
    rintro e w' ⟨rfl, rfl⟩
    exact ⟨[], rfl, .refl _, .nil, ⟨xs, ho, hx⟩, ⟨rfl, rfl, rfl, Nat.le_refl _, fun _ _ _ => rfl⟩⟩
  · rcases ho.2 with ⟨_, h00⟩ | ⟨g, cap, cur, rfl, hB, hg, k1, k2, k3, k4⟩
    · exact absurd h00 h0
    · have hpos : 0 < l.length := by omega
      let x0 := xs[0]'(by omega)
      let l0 := l[0]
      let enc : Nat → Value := fun i => xs.getD i x0
      let f : Nat → ST := fun i => l.getD i l0
      have hall : ∀ i, ET (fr m B w (some g)) [enc i] (f i) := by
        intro i
        have hone : ∀ j (hj : j < l.length), ET (fr m B w (some g)) [xs[j]'(by omega)] l[j] := fun j hj => by
          have := hx j hj
          have e : (xs.drop (j * 1)).take 1 = [xs[j]'(by omega)] := by
            rw [Nat.mul_one, List.drop_eq_getElem_cons (by omega)]; rfl
          rw [e] at this
          exact this
        by_cases hi : i < l.length
        · show ET _ [xs.getD i x0] (l.getD i l0)
          rw [getD_eq _ _ (by omega : i < xs.length), getD_eq _ _ hi]
          exact hone i hi
        · show ET _ [xs.getD i x0] (l.getD i l0)
          rw [List.getD_eq_getElem?_getD, List.getElem?_eq_none (by omega), List.getD_eq_getElem?_getD, List.getElem?_eq_none (by omega)]
          exact hone 0 hpos
      have hxs : xs = (List.range l.length).map enc := by
        refine List.ext_getElem (by simp [hxl]) fun i h1 h2 => ?_
        simp only [List.getElem_map, List.getElem_range]
        exact (getD_eq _ _ h1).symm
      have hlf : (List.range l.length).map f = l := by
        refine List.ext_getElem (by simp) fun i h1 h2 => ?_
        simp only [List.getElem_map, List.getElem_range]
        exact getD_eq _ _ h2
      have hblk := lt_blk hg
      have hds : (List.range l.length).toArray.size = l.length := by simp
      have hcells : ∀ j, j < l.length → w.cell? ⟨g, j, none⟩ = some (enc j) := fun j hj => by
        refine cell_blk hg j ?_
        have e1 : (cur.toList.take (l.length * 1))[j]? = xs[j]? := by rw [k4]
        rw [List.getElem?_take_of_lt (by omega)] at e1
        rw [← Array.getElem?_toList, e1, List.getElem?_eq_getElem (by omega)]
        exact congrArg some (getD_eq _ _ (by omega)).symm
      have hrun := srt118 enc (fun i => by obtain ⟨v, e, hr⟩ := hall i; simp only [List.cons.injEq, and_true] at e; obtain ⟨T, y, e2⟩ := hr.shape'; rw [e, e2]; rfl) (fun x y => cmpT (f x) (f y)) (cmpT_swo f) g cap (List.range l.length).toArray w
        (by
          intro m' os dk hs x y
          obtain ⟨v1, e1, r1⟩ := hall x
          obtain ⟨v2, e2, r2⟩ := hall y
          simp only [List.cons.injEq, and_true] at e1 e2
          have hsub : MLe (fr m B w (some g)) (ucell (sortWorld enc w g 0 m' dk os)) := fun a u h => by
            have hne := fr_not hB h
            have hu := fr_leU hm _ _ h
            rw [ucell_of ((grownBy_srt (enc := enc) (w := w) (g := g) (n := m') (os := os) dk).block a.block (ucell_lt hu) (fun e => hne (Option.some.inj e)))]
            exact hu
          rw [e1, e2]
          exact (compare_any (f x) (f y) _ _ _ _ r1 r2 hsub).mono fun e w' h => ⟨h.1, by obtain ⟨q, os', h⟩ := h.2; exact ⟨q, os', h⟩⟩)
        (by
          intro j hj
          have hj' : j < l.length := by simpa using hj
          refine ⟨?_, froz_blk hg _⟩
          rw [Nat.zero_add, hcells j hj']
          simp [hj'])
        hblk (by rw [hds]; omega)
      rw [hds] at hrun
      refine hrun.mono ?_
      rintro e w' ⟨rfl, d', n, os, hp, hs, rfl⟩
      obtain ⟨hp1, _, hp3⟩ := hp
      rw [hds] at hp1
      have hperm : d'.toList.Perm (List.range l.length) := by
        have e1 : d'.extract 0 l.length = d' := by rw [← hp1]; simp
        have e2 : (List.range l.length).toArray.extract 0 l.length = (List.range l.length).toArray := by
          conv => lhs; rw [← hds]
          simp
        rw [e1, e2] at hp3
        simpa using hp3
      have hnd : d'.toList.Nodup := hperm.nodup_iff.2 List.nodup_range
      have hmem : ∀ i ∈ d'.toList, i < l.length := fun i hi => List.mem_range.1 (hperm.mem_iff.1 hi)
      have hdl : d'.toList.length = l.length := by simpa using hp1
      refine ⟨d'.toList.map f, rfl, ?_, ?_, ?_, ?_⟩
      · have := hperm.map f
        rw [hlf] at this
        exact this
      · rw [List.pairwise_map, List.pairwise_iff_getElem]
        intro i j hi hj hij
        have hsd := hs i j (Nat.zero_le _) hij (by simpa using (by omega : j < l.length))
        have hi' : i < d'.size := by simpa using hi
        have hj' : j < d'.size := by simpa using hj
        rw [getElem!_pos d' j hj', getElem!_pos d' i hi'] at hsd
        have h0 := (cmpT_lt0 f _ _).1 hsd
        have h1 := cmpT_neg (f d'[i]) (f d'[j])
        show cmpT (f d'[i]) (f d'[j]) ≤ 0
        omega
      · refine ⟨d'.toList.map enc, ⟨by simp [hp1], .inr ⟨g, cap, _, by simp [hp1], hB, heap_srt d' hg, by simpa [hp1] using k1, k2, by simp [putCells, k3], ?_⟩⟩, ?_⟩
        · have := take_srt (enc := enc) cur d' (by rw [hp1, k3]; omega)
          simpa using this
        · intro i hi
          have hi2 : i < d'.toList.length := by simpa using hi
          have e1 : ((d'.toList.map enc).drop (i * 1)).take 1 = [enc d'.toList[i]] := by
            rw [Nat.mul_one, List.drop_eq_getElem_cons (by simpa using hi2)]
            simp
          have e2 : (d'.toList.map f)[i] = f d'.toList[i] := List.getElem_map ..
          rw [e1, e2]
          exact em_ET _ _ _ _ (fr_step (fun k _ h2 h3 => (grownBy_srt (enc := enc) (n := n) (os := os) d').block k h2 h3) (.inl rfl)) (hall _)
      · exact grownBy_srt d'
end Go.Proofs.YtaglgokeejjagaaGreat
