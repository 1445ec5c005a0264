/- The sort of types. -/
import Derived.Test.YtaglgokeejjagaaGreatSortT
import Derived.Test.YtaglgokeejjagaaGreatCmpE
import Derived.Test.YtaglgokeejjagaaGreatNrm
import Derived.Test.YtaglgokeejjagaaGreatWorks
import Derived.Laws.CopyOwn
namespace Go.Proofs.YtaglgokeejjagaaGreat
set_option linter.unusedVariables false
set_option linter.unusedSimpArgs false
open Go.RowKit Go.Sort Go.Shelf

theorem enters48 : ∀ args w, (callFunc 48 args).run Tryz.prog w = .ok (.enter 48 args) w := enters_of Tryz.func48 (by kernel_rfl) rfl
theorem cmpT_lt1 {α : Type} (f : α → ST) (x y : α) : ltOf (fun x y => cmpT (f x) (f y)) x y = true ↔ cmpT (f x) (f y) < 0 := by unfold ltOf; simp
theorem cmpT_lt0 {α : Type} (f : α → ST) (x y : α) : ltOf (fun x y => cmpT (f x) (f y)) x y = false ↔ 0 ≤ cmpT (f x) (f y) := by unfold ltOf; simp
theorem cmpT_ge {s t u : ST} (h : 0 ≤ cmpT s t) (k : 0 ≤ cmpT t u) : 0 ≤ cmpT s u := by
  have h1 := cmpT_neg s t
  have h2 := cmpT_neg t u
  have h3 := cmpT_neg s u
  have := lexc_le_trans (x := code u) (y := code t) (z := code s) (by change cmpT _ _ ≤ 0; omega) (by change cmpT _ _ ≤ 0; omega)
  change cmpT _ _ ≤ 0 at this
  omega
theorem cmpT_swo {α : Type} (f : α → ST) : SWO (ltOf (fun x y => cmpT (f x) (f y))) where
  irrefl x := (cmpT_lt0 f x x).2 (by rw [cmpT_self]; exact Int.le_refl _)
  trans x y z h k := (cmpT_lt1 f x z).2 (lexc_trans ((cmpT_lt1 f x y).1 h) ((cmpT_lt1 f y z).1 k))
  ntrans x y z h k := (cmpT_lt0 f x z).2 (cmpT_ge ((cmpT_lt0 f x y).1 h) ((cmpT_lt0 f y z).1 k))

set_option maxHeartbeats 2000000 in
set_option maxRecDepth 100000 in
theorem srt118_none (p : Option Addr) (cap : Nat) (w : World) : Calls Tryz.prog 118 #[.slice p 0 cap, .func (.func 48) #[] #[]] w fun e w' => e = .returned (.tuple #[]) ∧ w' = w := by
  have HB := Lib.hid (Any.bits_Len (SlLaysF0.n15.bits (P := Tryz.prog) (ρ := Tryz.sortTP_ren) { Tryz.sortTP with }) 0 w (by omega) (by omega))
  have HP := Lib.hid (fun lim => AnyF.pdqsortCmpFunc_none (P := Tryz.prog) (ρ := Tryz.sortTP_ren) { Tryz.sortTP with } p cap lim (.func (.func 48) #[] #[]) w)
  go_enter Tryz.func118, Tryz.ntmps118
  go_wp2_with (first | (go_at_call 121; refine HB.out.mono ?_; rintro e w' ⟨rfl, hww⟩; have hww := hww.symm; subst hww) | (go_at_call 122; refine (HP.out _).mono ?_; rintro e w' ⟨rfl, hww⟩; have hww := hww.symm; subst hww))
  go_end0
  exact ⟨rfl, rfl⟩
set_option maxHeartbeats 2000000 in
set_option maxRecDepth 100000 in
theorem srt118 {α : Type} [Inhabited α] (enc : α → Value) (h1 : OneCell enc) (cf : α → α → Int) (hO : SWO (ltOf cf)) (blk cap : Nat) (d : Array α) (w : World)
    (hcmp : CmpLays1 Tryz.prog 48 #[] enc cf blk 0 d.size w) (hH : Holds enc w blk 0 d) (hblk : blk < w.heap.size) (hsz : d.size < 4611686018427387904) :
    Calls Tryz.prog 118 #[.slice (some ⟨blk, 0, none⟩) d.size cap, .func (.func 48) #[] #[]] w fun e w' =>
      e = .returned (.tuple #[]) ∧ ∃ d' n os, PermIn 0 d.size d d' ∧ SortedIn (ltOf cf) 0 d.size d' ∧ w' = sortWorld enc w blk 0 n d' os := by
  have hlim : Lib.bitLen d.size < 4611686018427387904 := Nat.lt_of_le_of_lt (Lib.bitLen_le d.size 62 (by omega) (by omega)) (by omega)
  have hp := Lib.hid (Any.pdqsortCmpFunc_all (P := Tryz.prog) (ρ := Tryz.sortTP_ren) Tryz.sortTP enc cf 48 #[] hO blk 0 cap d w enters48 hcmp ⟨h1, hH, hblk⟩ (d.size + 1) 0 d.size (Lib.bitLen d.size) d w (by omega) rfl (SW.start hH) (Nat.zero_le _) (Nat.le_refl _) hsz hlim (Or.inl rfl))
  have hl := Lib.hid (show Calls Tryz.prog 121 #[.int .u64 (d.size : Int)] w fun e w' => e = .returned (.int .i64 (Lib.bitLen d.size : Nat)) ∧ w' = w by
    have h := Any.bits_Len (SlLaysF0.n15.bits (P := Tryz.prog) (ρ := Tryz.sortTP_ren) { Tryz.sortTP with }) (d.size : Int) w (by omega) (by omega)
    rwa [Int.toNat_natCast] at h)
  have wr : IntKind.u64.wrap (d.size : Int) = d.size := by simp [IntKind.wrap, IntKind.bits, IntKind.signed]; omega
  have HS := Lib.hid (pdq_sorts (ltOf cf) hO d 0 d.size (Lib.bitLen d.size) true true (Nat.zero_le _) (Nat.le_refl _) (Or.inl rfl))
  clear hH hcmp h1
  go_enter Tryz.func118, Tryz.ntmps118
  go_wp2_with (first | (go_at_call 121; refine hl.out.mono ?_; rintro e w' ⟨rfl, hww⟩; have hww := hww.symm; subst hww) | (go_at_call 122; refine hp.out.mono ?_; rintro e w' ⟨rfl, n, os, rfl⟩))
  go_end0
  exact ⟨rfl, _, n, os, HS.out.1, HS.out.2, rfl⟩

def SrtQ (m : Mem) (B : Nat) (w : World) (v : Value) (l : List ST) (e : Ending) (w' : World) : Prop :=
  ∃ l' : List ST, e = .returned (.tuple #[]) ∧ l'.Perm l ∧ l'.Pairwise (fun a b => cmpT a b ≤ 0) ∧ Own ET m 74 1 B w' v l' ∧ w.grownBy w' v.ownBlock
set_option maxRecDepth 100000 in
theorem sort118 {m : Mem} {B : Nat} {w : World} {v : Value} {l : List ST} (hm : MLe m (ucell w)) (hl : Lo m B) (h : Own ET m 74 1 B w v l) (hn : l.length < 1000000) :
    Calls Tryz.prog 118 #[v, .func (.func 48) #[] #[]] w (SrtQ m B w v l) := by
  obtain ⟨xs, ho, hx⟩ := h
  have hxl : xs.length = l.length := by have := ho.1; omega
  by_cases h0 : l.length = 0
  · have hl0 : l = [] := List.eq_nil_of_length_eq_zero h0
    subst hl0
    have hsl : ∃ p cap, v = .slice p 0 cap := by
      rcases ho.2 with ⟨rfl, _⟩ | ⟨g, cap, cur, rfl, _⟩
      · exact ⟨_, _, rfl⟩
      · exact ⟨_, _, rfl⟩
    obtain ⟨p, cap, rfl⟩ := hsl
    refine (srt118_none p cap w).mono ?_
    rintro e w' ⟨rfl, rfl⟩
    exact ⟨[], rfl, .refl _, .nil, ⟨xs, ho, hx⟩, ⟨rfl, rfl, rfl, Nat.le_refl _, fun _ _ _ => rfl⟩⟩
  · rcases ho.2 with ⟨_, h00⟩ | ⟨g, cap, cur, rfl, hB, hg, k1, k2, k3, k4⟩
    · exact absurd h00 h0
    · have hpos : 0 < l.length := by omega
      let x0 := xs[0]'(by omega)
      let l0 := l[0]
      let enc : Nat → Value := fun i => xs.getD i x0
      let f : Nat → ST := fun i => l.getD i l0
      have hall : ∀ i, ET (fr m B w (some g)) [enc i] (f i) := by
        intro i
        have hone : ∀ j (hj : j < l.length), ET (fr m B w (some g)) [xs[j]'(by omega)] l[j] := fun j hj => by
          have := hx j hj
          have e : (xs.drop (j * 1)).take 1 = [xs[j]'(by omega)] := by
            rw [Nat.mul_one, List.drop_eq_getElem_cons (by omega)]; rfl
          rw [e] at this
          exact this
        by_cases hi : i < l.length
        · show ET _ [xs.getD i x0] (l.getD i l0)
          rw [getD_eq _ _ (by omega : i < xs.length), getD_eq _ _ hi]
          exact hone i hi
        · show ET _ [xs.getD i x0] (l.getD i l0)
          rw [List.getD_eq_getElem?_getD, List.getElem?_eq_none (by omega), List.getD_eq_getElem?_getD, List.getElem?_eq_none (by omega)]
          exact hone 0 hpos
      have hxs : xs = (List.range l.length).map enc := by
        refine List.ext_getElem (by simp [hxl]) fun i h1 h2 => ?_
        simp only [List.getElem_map, List.getElem_range]
        exact (getD_eq _ _ h1).symm
      have hlf : (List.range l.length).map f = l := by
        refine List.ext_getElem (by simp) fun i h1 h2 => ?_
        simp only [List.getElem_map, List.getElem_range]
        exact getD_eq _ _ h2
      have hblk := lt_blk hg
      have hds : (List.range l.length).toArray.size = l.length := by simp
      have hcells : ∀ j, j < l.length → w.cell? ⟨g, j, none⟩ = some (enc j) := fun j hj => by
        refine cell_blk hg j ?_
        have e1 : (cur.toList.take (l.length * 1))[j]? = xs[j]? := by rw [k4]
        rw [List.getElem?_take_of_lt (by omega)] at e1
        rw [← Array.getElem?_toList, e1, List.getElem?_eq_getElem (by omega)]
        exact congrArg some (getD_eq _ _ (by omega)).symm
      have hrun := srt118 enc (fun i => by obtain ⟨v, e, hr⟩ := hall i; simp only [List.cons.injEq, and_true] at e; obtain ⟨T, y, e2⟩ := hr.shape'; rw [e, e2]; rfl) (fun x y => cmpT (f x) (f y)) (cmpT_swo f) g cap (List.range l.length).toArray w
        (by
          intro m' os dk hs x y
          obtain ⟨v1, e1, r1⟩ := hall x
          obtain ⟨v2, e2, r2⟩ := hall y
          simp only [List.cons.injEq, and_true] at e1 e2
          have hsub : MLe (fr m B w (some g)) (ucell (sortWorld enc w g 0 m' dk os)) := fun a u h => by
            have hne := fr_not hB h
            have hu := fr_leU hm _ _ h
            rw [ucell_of ((grownBy_srt (enc := enc) (w := w) (g := g) (n := m') (os := os) dk).block a.block (ucell_lt hu) (fun e => hne (Option.some.inj e)))]
            exact hu
          rw [e1, e2]
          exact (compare_any (f x) (f y) _ _ _ _ r1 r2 hsub).mono fun e w' h => ⟨h.1, by obtain ⟨q, os', h⟩ := h.2; exact ⟨q, os', h⟩⟩)
        (by
          intro j hj
          have hj' : j < l.length := by simpa using hj
          refine ⟨?_, froz_blk hg _⟩
          rw [Nat.zero_add, hcells j hj']
          simp [hj'])
        hblk (by rw [hds]; omega)
      rw [hds] at hrun
      refine hrun.mono ?_
      rintro e w' ⟨rfl, d', n, os, hp, hs, rfl⟩
      obtain ⟨hp1, _, hp3⟩ := hp
      rw [hds] at hp1
      have hperm : d'.toList.Perm (List.range l.length) := by
        have e1 : d'.extract 0 l.length = d' := by rw [← hp1]; simp
        have e2 : (List.range l.length).toArray.extract 0 l.length = (List.range l.length).toArray := by
          conv => lhs; rw [← hds]
          simp
        rw [e1, e2] at hp3
        simpa using hp3
      have hnd : d'.toList.Nodup := hperm.nodup_iff.2 List.nodup_range
      have hmem : ∀ i ∈ d'.toList, i < l.length := fun i hi => List.mem_range.1 (hperm.mem_iff.1 hi)
      have hdl : d'.toList.length = l.length := by simpa using hp1
      refine ⟨d'.toList.map f, rfl, ?_, ?_, ?_, ?_⟩
      · have := hperm.map f
        rw [hlf] at this
        exact this
      · rw [List.pairwise_map, List.pairwise_iff_getElem]
        intro i j hi hj hij
        have hsd := hs i j (Nat.zero_le _) hij (by simpa using (by omega : j < l.length))
        have hi' : i < d'.size := by simpa using hi
        have hj' : j < d'.size := by simpa using hj
        rw [getElem!_pos d' j hj', getElem!_pos d' i hi'] at hsd
        have h0 := (cmpT_lt0 f _ _).1 hsd
        have h1 := cmpT_neg (f d'[i]) (f d'[j])
        show cmpT (f d'[i]) (f d'[j]) ≤ 0
        omega
      · refine ⟨d'.toList.map enc, ⟨by simp [hp1], .inr ⟨g, cap, _, by simp [hp1], hB, heap_srt d' hg, by simpa [hp1] using k1, k2, by simp [putCells, k3], ?_⟩⟩, ?_⟩
        · have := take_srt (enc := enc) cur d' (by rw [hp1, k3]; omega)
          simpa using this
        · intro i hi
          have hi2 : i < d'.toList.length := by simpa using hi
          have e1 : ((d'.toList.map enc).drop (i * 1)).take 1 = [enc d'.toList[i]] := by
            rw [Nat.mul_one, List.drop_eq_getElem_cons (by simpa using hi2)]
            simp
          have e2 : (d'.toList.map f)[i] = f d'.toList[i] := List.getElem_map ..
          rw [e1, e2]
          exact em_ET _ _ _ _ (fr_step (fun k _ h2 h3 => (grownBy_srt (enc := enc) (n := n) (os := os) d').block k h2 h3) (.inl rfl)) (hall _)
      · exact grownBy_srt d'
end Go.Proofs.YtaglgokeejjagaaGreat
/- 'NewAny'. -/
namespace Go.Proofs.YtaglgokeejjagaaGreat
set_option linter.unusedVariables false
set_option linter.unusedSimpArgs false
open Go.RowKit Go.Sort Go.Shelf

theorem info74' : (Tryz.prog.info? 74).map (fun i => (i.zero, i.size, i.bytes)) = some (some .nilIface, 1, 16) := by kernel_rfl
theorem size74 : (Tryz.prog.info? 74).map (·.size) = some 1 := by kernel_rfl

def ZtQ (m : Mem) (B : Nat) (w : World) (v : Value) (l : List ST) (e : Ending) (w' : World) : Prop :=
  e = .returned v ∧ Own ET m 74 1 B w' v (srtT l) ∧ w.grownBy w' v.ownBlock
set_option maxHeartbeats 1000000 in
set_option maxRecDepth 100000 in
theorem zzSorted110 {m : Mem} {B : Nat} {w : World} {v : Value} {l : List ST} (hm : MLe m (ucell w)) (hl : Lo m B) (h : Own ET m 74 1 B w v l) (hnt : ∀ s ∈ l, NT s) (hn : l.length < 1000000) :
    Calls Tryz.prog 110 #[v, .func (.func 48) #[] #[]] w (ZtQ m B w v l) := by
  obtain ⟨a, n, c, rfl⟩ : ∃ a n c, v = .slice a n c := by
    obtain ⟨xs, ho, _⟩ := h
    rcases ho.2 with ⟨rfl, _⟩ | ⟨g, cap, cur, rfl, _⟩ <;> exact ⟨_, _, _, rfl⟩
  have HC := Lib.hid (sort118 hm hl h hn)
  have HN := Lib.hid hnt
  clear h hm hnt
  go_enter Tryz.func110, Tryz.ntmps110
  go_wp2_with (go_at_call 118; refine HC.out.mono ?_; rintro e w2 ⟨l', rfl, h1, h2, h3, h4⟩)
  go_ret
  exact ⟨rfl, by rw [← srtT_of HN.out h1 h2]; exact h3, h4⟩

/-- A row that has been made, whole. -/
theorem made_blk {w1 : World} {B g n : Nat} (hown1 : w1.ownsRow B 74 1 (.slice (some ⟨g, 0, none⟩) n n) n (madeCells Value.nilIface.cells (n * 1)).toList) : w1.heap[g]? = some (.cells (List.replicate n Value.nilIface).toArray 74 (0, 0)) := by
  rcases hown1.2 with ⟨h, _⟩ | ⟨g', cap, cur, h, _, hg, _, _, h3, h4⟩
  · cases h
  · simp only [Value.slice.injEq, Option.some.injEq, Addr.mk.injEq, and_true, true_and] at h
    obtain ⟨rfl, rfl⟩ := h
    rw [hg]
    have e : cur.toList = List.replicate n Value.nilIface := by
      rw [List.take_of_length_le (by simp [h3])] at h4
      rw [h4]
      simp [Value.cells, toList_madeCells_one]
    have e2 : cur = (List.replicate n Value.nilIface).toArray := by rw [← e]
    rw [e2]
theorem add0 (b o j : Nat) : ((⟨b, o, none⟩ : Addr).add j) = ⟨b, o + j, none⟩ := by unfold Addr.add; split <;> simp_all

theorem own_blk {m : Mem} {B g : Nat} {w : World} {xs : List Value} {l : List ST} (hb : w.heap[g]? = some (.cells xs.toArray 74 (0, 0))) (hl : xs.length = l.length) (hB : B ≤ g) (hlo : Lo m B) (e : ∀ i (h1 : i < xs.length) (h2 : i < l.length), RT m xs[i] l[i]) (hn : l.length < 1000000) :
    Own ET m 74 1 B w (.slice (some ⟨g, 0, none⟩) l.length l.length) l := by
  refine ⟨xs, ⟨by omega, .inr ⟨g, l.length, xs.toArray, rfl, hB, hb, Nat.le_refl _, by simp [maxLen]; omega, by simp; omega, by rw [Nat.mul_one]; exact List.take_of_length_le (by simp; omega)⟩⟩, fun i hi => ⟨xs[i]'(by omega), ?_, (e i (by omega) hi).mono (fr_old hlo)⟩⟩
  rw [Nat.mul_one, List.drop_eq_getElem_cons (by omega)]; rfl
theorem splice_all {R xs : List Value} (h : R.length = xs.length) : splice R 0 xs = xs := by simp [splice, h]

def NaQ (m : Mem) (l : List ST) (w : World) (e : Ending) (w' : World) : Prop :=
  ∃ g, e = .returned (.slice (some ⟨g, 0, none⟩) l.length l.length) ∧ Own ET m 74 1 w.heap.size w' (.slice (some ⟨g, 0, none⟩) l.length l.length) (srtT l) ∧ Below w.heap.size w w'
set_option maxHeartbeats 2000000 in
set_option maxRecDepth 100000 in
theorem newAny_any {m : Mem} {w : World} {a : Option Addr} {c : Nat} {xs : List Value} {l : List ST} (lk : lenOk l.length c) (hl : xs.length = l.length) (r : RowX m a xs) (e : ∀ i (h1 : i < xs.length) (h2 : i < l.length), RT m xs[i] l[i]) (hm : MLe m (ucell w)) (hn : l.length < 1000000) :
    Calls Tryz.prog 85 #[.slice a l.length c] w (NaQ m l w) := by
  obtain ⟨lk1, lk2⟩ := lk
  have hlo : Lo m w.heap.size := lo_of_mle (hm.trans ucell_le)
  have HNT := Lib.hid (mem_of_ih (m := m) hl (fun i h1 h2 => (e i h1 h2).nt))
  have HR := Lib.hid r
  have HE := Lib.hid e
  have HM := Lib.hid hm
  have HL := Lib.hid hl
  have HLO := Lib.hid hlo
  have HN := Lib.hid hn
  clear r e hm hl hlo hn
  have HSRC := Lib.hid (show 0 < xs.length → ∃ ad, a = some ad ∧ ∀ j v, xs[j]? = some v → m (ad.add j) = some v from fun h0 => by
    obtain ⟨b, off, ea, _⟩ := rowX_get HR.out h0
    refine ⟨⟨b, off, none⟩, ea, fun j v hj => ?_⟩
    obtain ⟨hj1, hj2⟩ := List.getElem?_eq_some_iff.1 hj
    obtain ⟨b', off', ea', hc⟩ := rowX_get HR.out hj1
    rw [ea] at ea'; cases ea'
    rw [add0, hc, hj2])
  have HONE := Lib.hid (show ∀ v ∈ xs, v.oneCell' = true from fun v hv => by
    obtain ⟨i, hi, rfl⟩ := List.getElem_of_mem hv
    obtain ⟨T, y, e⟩ := (HE.out i hi (by have := HL.out; omega)).shape'
    rw [e]; rfl)
  obtain ⟨R, hR⟩ : ∃ R, R = List.replicate l.length Value.nilIface := ⟨_, rfl⟩
  have HRR := Lib.hid hR
  obtain ⟨i0, hi0, hz0, hz1, hz2⟩ := info_parts info74'
  have HZ2 := Lib.hid hz2
  clear hR hz2
  go_enter Tryz.func85, Tryz.ntmps85
  go_wp2_with (first | (at_make; refine wpList_make_full _ rfl _ _ 110 rfl w.heap.size 74 i0 .nilIface 1 Tryz.underlying110 hi0 hz0 hz1 .i64 .i64 _ _ l.length rfl rfl rfl rfl (by rw [HZ2.out]; have := HN.out; omega) (by have := HN.out; simp [maxLen]; omega) (Nat.le_refl _) ?_; intro w1 hown1 hg1; have HB1 := Lib.hid (show w1.heap[w.heap.size]? = some (.cells R.toArray 74 (0, 0)) by rw [HRR.out]; exact made_blk hown1); have HG1 := Lib.hid (gb_below hg1); clear hown1 hg1) | (refine wpList_copy_splice rfl (.tmp 7) (.tmp 8) 110 109 rfl 74 Tryz.underlying110 size74 _ _ _ _ _ _ rfl rfl w.heap.size 0 R 74 HB1.out xs (by rw [HL.out]; exact (Nat.min_self _).symm) (fun h0 => ⟨rfl, by obtain ⟨ad, e1, e2⟩ := HSRC.out h0; exact ⟨ad, e1, fun j v hj => (mle_below HG1.out) _ _ (ucell_le _ _ (HM.out _ _ (e2 j v hj)))⟩⟩) (by rw [HRR.out, HL.out]; simp) HONE.out w.heap.size w HG1.out (Nat.le_refl _) ?_; intro w2 HB2 hg2; have HG2 := Lib.hid hg2; clear hg2) | (go_at_call 110; refine (zzSorted110 (l := l) (HM.out.trans (mleU HG2.out)) HLO.out (own_blk (xs := xs) (by have h := HB2.out; rw [splice_all (by rw [HRR.out, HL.out]; simp)] at h; exact h) HL.out (Nat.le_refl _) HLO.out HE.out HN.out) HNT.out HN.out).mono ?_; rintro e w3 ⟨rfl, ho, hg⟩))
  go_ret
  exact ⟨_, rfl, ho, HG2.out.grown hg HG2.out.size (fun k e => by cases e; exact Nat.le_refl _)⟩
end Go.Proofs.YtaglgokeejjagaaGreat
/- What 'built' calls: keys, types with a number, all types; sets, dynamic properties. -/
namespace Go.Proofs.YtaglgokeejjagaaGreat
set_option linter.unusedVariables false
set_option linter.unusedSimpArgs false
open Go.RowKit Go.Sort

def KeyP (k : Ky) (w : World) (e : Ending) (w' : World) : Prop := e = .returned (akOf k).v ∧ Gr w w'
set_option maxHeartbeats 2000000 in
set_option maxRecDepth 100000 in
theorem key_any (k : Ky) (w : World) : Calls Tryz.prog 81 #[.agg #[.int .i64 k.kind, .string k.text]] w (KeyP k w) := by
  obtain ⟨kd, tx⟩ := k
  by_cases h1 : kd = 1
  · subst h1
    go_enter Tryz.func81, Tryz.ntmps81
    go_wp2
    go_ret
    exact ⟨rfl, (Gr.refl _).alloc _⟩
  · by_cases h2 : kd = 2
    · subst h2
      go_enter Tryz.func81, Tryz.ntmps81
      go_wp2
      go_ret
      exact ⟨rfl, (Gr.refl _).alloc _⟩
    · by_cases h4 : kd = 4
      · subst h4
        go_enter Tryz.func81, Tryz.ntmps81
        go_wp2
        go_ret
        exact ⟨rfl, (Gr.refl _).alloc _⟩
      · have HK := Lib.hid (show (akOf ⟨kd, tx⟩).v = .nilIface by unfold akOf; rw [if_neg h1, if_neg h2, if_neg h4]; rfl)
        go_enter Tryz.func81, Tryz.ntmps81
        go_wp2
        go_ret
        exact ⟨by rw [HK.out]; rfl, (Gr.refl _).alloc _⟩

def NsetP (x : Value) (w : World) (e : Ending) (w' : World) : Prop := e = .returned (.pointer (some ⟨w.heap.size, 0, none⟩)) ∧ w' = w.alloc (.cells #[x] 126)
set_option maxHeartbeats 1000000 in
set_option maxRecDepth 100000 in
theorem nset_any (T : Nat) (y : Value) (w : World) : Calls Tryz.prog 84 #[.iface T y] w (NsetP (.iface T y) w) := by
  go_enter Tryz.func84, Tryz.ntmps84
  go_wp2
  go_ret
  exact ⟨rfl, rfl⟩
def NdpP (x y : Value) (w : World) (e : Ending) (w' : World) : Prop := e = .returned (.pointer (some ⟨w.heap.size, 0, none⟩)) ∧ w' = w.alloc (.cells #[x, y] 107)
set_option maxHeartbeats 1000000 in
set_option maxRecDepth 100000 in
theorem ndp_any (T T' : Nat) (y y' : Value) (w : World) : Calls Tryz.prog 83 #[.iface T y, .iface T' y'] w (NdpP (.iface T y) (.iface T' y') w) := by
  go_enter Tryz.func83, Tryz.ntmps83
  go_wp2
  go_ret
  exact ⟨rfl, rfl⟩

/-! ### 'built' of the types within -/
def BuP (s : ST) (w : World) (e : Ending) (w' : World) : Prop := ∃ v, e = .returned v ∧ RT (fr m0 w.heap.size w' none) v s ∧ Below w.heap.size w w'
def BuOk (t : IT) : Prop := ∀ (m : Mem) (kd : Int) (nm tx : ByteArray) (ak a1 a2 : Option Addr) (nk ck n1 c1 n2 c2 : Nat) (w : World), MIT m (itCells kd nm tx ak nk ck a1 n1 c1 a2 n2 c2) t → BT (toS t) → WI t ≤ 100000 → MLe m w.cell? →
  Calls Tryz.prog 46 #[.agg #[.int .i64 kd, .string nm, .string tx, .slice ak nk ck, .slice a1 n1 c1, .slice a2 n2 c2]] w (BuP (nrm (toS t)) w)

set_option maxHeartbeats 1000000 in
set_option maxRecDepth 100000 in
theorem at_nil {a : Option Addr} {n c : Nat} {i : Int} (h : (n : Int) ≤ i) (w : World) : Calls Tryz.prog 79 #[.slice a n c, .int .i64 i] w (SameP .nilIface w) := by
  go_enter Tryz.func79, Tryz.ntmps79
  go_wp2
  go_ret
  exact ⟨rfl, rfl⟩
set_option maxHeartbeats 1000000 in
set_option maxRecDepth 100000 in
theorem at_some {m : Mem} {ts : List IT} {a : Option Addr} {c i : Nat} {w : World} (hr : RowIT m a ts) (lk : lenOk ts.length c) (hi : i < ts.length) (IH : Hid (BuOk ts[i])) (hb : BT (toS ts[i])) (hw : WI ts[i] ≤ 100000) (hm : MLe m w.cell?) :
    Calls Tryz.prog 79 #[.slice a ts.length c, .int .i64 i] w (BuP (nrm (toS ts[i])) w) := by
  obtain ⟨b, off, kd, nm, tx, ak, nk, ck, a1, n1, c1, a2, n2, c2, rfl, e0, e1, e2, e3, e4, e5, hv⟩ := hr.at hi
  obtain ⟨l1, l2⟩ := lk
  have HC := Lib.hid (IH.out m _ _ _ _ _ _ _ _ _ _ _ _ w hv hb hw hm)
  replace e0 := hm _ _ e0
  replace e1 := hm _ _ e1
  replace e2 := hm _ _ e2
  replace e3 := hm _ _ e3
  replace e4 := hm _ _ e4
  replace e5 := hm _ _ e5
  clear hv hb hw hm hr
  go_enter Tryz.func79, Tryz.ntmps79
  go_wp2_with (go_at_call 46; refine HC.out.mono ?_; rintro e w2 ⟨v, rfl, hrt, hbl⟩; obtain ⟨Ty, y, rfl⟩ := hrt.shape; have HRT := Lib.hid hrt; have HBL := Lib.hid hbl; clear hrt hbl)
  go_ret
  exact ⟨_, rfl, HRT.out, HBL.out⟩

def AllP (l : List ST) (w : World) (e : Ending) (w' : World) : Prop := ∃ a c xs, e = .returned (.slice a l.length c) ∧ lenOk l.length c ∧ xs.length = l.length ∧ RowX (fr m0 w.heap.size w' none) a xs ∧ (∀ i (h1 : i < xs.length) (h2 : i < l.length), RT (fr m0 w.heap.size w' none) xs[i] l[i]) ∧ Below w.heap.size w w'
set_option maxHeartbeats 2000000 in
set_option maxRecDepth 100000 in
theorem all_any {m : Mem} {ts : List IT} {a : Option Addr} {c : Nat} {w : World} (IH : Hid (∀ t ∈ ts, BuOk t)) (hr : RowIT m a ts) (lk : lenOk ts.length c) (hb : ∀ t ∈ ts, BT (toS t)) (hw : ∀ t ∈ ts, WI t ≤ 100000) (hn : ts.length ≤ 100000) (hm : MLe m w.cell?) :
    Calls Tryz.prog 78 #[.slice a ts.length c] w (AllP (ts.map fun t => nrm (toS t)) w) := by
  obtain ⟨l1, l2⟩ := lk
  have HR := Lib.hid hr
  have HB := Lib.hid hb
  have HW := Lib.hid hw
  have HN := Lib.hid hn
  have HM := Lib.hid hm
  clear hr hb hw hn hm
  go_enter Tryz.func78, Tryz.ntmps78
  go_wp2
  go_loopw [3, 8] (fun v i wr => ∃ k : Nat, k ≤ ts.length ∧ i = .int .i64 k ∧ Hid (Own ET m0 74 1 w.heap.size wr v ((ts.take k).map fun t => nrm (toS t)) ∧ Below w.heap.size w wr)) (fun _ i _ => ts.length - (intOf i).toNat)
  case atStart => exact ⟨0, Nat.zero_le _, rfl, Own.nil .., Below.refl _ _⟩
  case round =>
    obtain ⟨k, hk, rfl, hI⟩ := hrel
    by_cases hlt : k < ts.length
    · have hm1 := HM.out.trans (mle_below hI.out.2)
      obtain ⟨b, off, kd, nm, tx, ak, nk, ck, a1, n1, c1, a2, n2, c2, rfl, e0, e1, e2, e3, e4, e5, hv⟩ := HR.out.at hlt
      replace e0 := hm1 _ _ e0
      replace e1 := hm1 _ _ e1
      replace e2 := hm1 _ _ e2
      replace e3 := hm1 _ _ e3
      replace e4 := hm1 _ _ e4
      replace e5 := hm1 _ _ e5
      have HM1 := Lib.hid hm1
      have HV := Lib.hid hv
      have HIN := Lib.hid (fun (W : World) (h : MLe m W.cell?) => IH.out _ (List.getElem_mem hlt) m _ _ _ _ _ _ _ _ _ _ _ _ W HV.out (HB.out _ (List.getElem_mem hlt)) (HW.out _ (List.getElem_mem hlt)) h)
      clear hv hm1
      go_wp2_with (first | (go_at_call 46; refine (HIN.out _ (mle_alloc HM1.out _)).mono ?_; rintro e w2 ⟨v, rfl, hrt, hbl⟩; obtain ⟨Ty, y, rfl⟩ := hrt.shape; have HRT := Lib.hid hrt; have HBL := Lib.hid hbl; clear hrt hbl) | (at_builtin; refine wpList_snoc em_ET rfl _ _ _ rfl rfl _ _ rfl (Snoc.call (y := nrm (toS ts[k])) em_ET hI.out.1 (lo_m0 _) (bl_alloc (Below.refl _ _) _) HBL.out ⟨_, rfl, HRT.out⟩ sl109 rfl (by simp [Value.oneCell']) (by have := HN.out; simp; omega) (by have := HN.out; simp [maxLen]; omega) hI.out.2.size) ?_; intro g' cap w5 hown5 hg5 hv5 hgg5))
      go_roundw
      case rel =>
        have ek : ((ts.take (k + 1)).map fun t => nrm (toS t)) = ((ts.take k).map fun t => nrm (toS t)) ++ [nrm (toS ts[k])] := by rw [List.take_succ_eq_append_getElem hlt, List.map_append, List.map_cons, List.map_nil]
        rw [← ek] at hown5
        refine ⟨k + 1, by omega, by go_num, ?_, bl_grown (bl_alloc (bl_trans (bl_alloc hI.out.2 _) HBL.out) _) hg5 (fun k' e => hv5 k' e)⟩
        simp only [List.length_map, List.length_take, Nat.min_eq_left (Nat.le_of_lt hlt)] at hown5
        exact hown5
      case measure => simp [intOf]; omega
    · obtain rfl : k = ts.length := by omega
      obtain ⟨hown, hb⟩ := hI.out
      rw [List.take_length] at hown
      obtain ⟨a', c', xs, rfl, lok, hxl, row, hrt⟩ := hown.types
      have HBB := Lib.hid hb
      have ROW := Lib.hid row
      have LOK := Lib.hid lok
      have HXL := Lib.hid hxl
      have HRT := Lib.hid hrt
      clear hown hb row lok hI hxl hrt
      go_wp2
      go_ret
      exact ⟨a', c', xs, by simp, LOK.out, HXL.out, ROW.out, HRT.out, HBB.out⟩
end Go.Proofs.YtaglgokeejjagaaGreat
