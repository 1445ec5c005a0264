/- The types of the package in memory, and the sort of the properties. -/
import Derived.Test.YtaglgokeejjagaaGreatKeyz
namespace Go.Proofs.YtaglgokeejjagaaGreat
set_option linter.unusedVariables false
set_option linter.unusedSimpArgs false
open Go.RowKit Go.Sort Go.Shelf

/-! ### behind a sort, whatever the elements -/
section
variable {α : Type} [Inhabited α] {enc : α → Value}
theorem heap_srt {w : World} {g n : Nat} {os : Array Obj} {cur : Array Value} {e : TypeId} {fr : Nat × Nat} (d : Array α) (hb : w.heap[g]? = some (.cells cur e fr)) :
    (sortWorld enc w g 0 n d os).heap[g]? = some (.cells (putCells enc 0 d cur) e fr) := by
  have hg : g < w.heap.size := (Array.getElem?_eq_some_iff.1 hb).1
  unfold sortWorld
  rw [heap_grow_old _ _ (by simpa using hg)]
  simp [putRow, mapBlock, Sort.ahead, Array.getElem?_modify, hb, onCells]
theorem grownBy_srt {w : World} {g n : Nat} {os : Array Obj} (d : Array α) : w.grownBy (sortWorld enc w g 0 n d os) (some g) := by
  unfold sortWorld
  refine ⟨rfl, rfl, rfl, by simp, fun k hk hne => ?_⟩
  rw [heap_grow_old _ _ (by simpa using hk)]
  have : g ≠ k := fun e => hne (by rw [e])
  simp [putRow, mapBlock, Sort.ahead, Array.getElem?_modify, this]
theorem take_srt (cur : Array Value) (d : Array α) (h : d.size ≤ cur.size) : (putCells enc 0 d cur).toList.take d.size = d.toList.map enc := by
  apply List.ext_getElem?
  intro j
  by_cases hj : j < d.size
  · rw [List.getElem?_take_of_lt hj, Array.getElem?_toList]
    simp [putCells, hj, show j < cur.size by omega]
  · rw [List.getElem?_take_eq_none (by omega), List.getElem?_eq_none (by simp; omega)]
end

/-- Key and type of a property. -/
abbrev Pr := AK × ST
def kyOf : AK → Ky
  | .none => ⟨0, ⟨#[]⟩⟩
  | .bool x => ⟨if x = true then 2 else 1, ⟨#[]⟩⟩
  | .text t => ⟨4, t⟩

/-- A row of cells of one value each. -/
def RowX (m : Mem) (a : Option Addr) (xs : List Value) : Prop := Row m 1 a xs.length fun i => [xs.getD i default]
theorem RowX.mono {m m' : Mem} {a : Option Addr} {xs : List Value} (h : RowX m a xs) (hm : MLe m m') : RowX m' a xs := Row.mono h hm

/-- How a type of the package lies in memory. -/
inductive RT (m : Mem) : Value → ST → Prop
  | null : RT m (.iface 90 (.agg #[])) (.mk 1 [] [] [])
  | bool : RT m (.iface 91 (.agg #[])) (.mk 2 [] [] [])
  | num : RT m (.iface 92 (.agg #[])) (.mk 3 [] [] [])
  | str : RT m (.iface 93 (.agg #[])) (.mk 4 [] [] [])
  | arr {b c : Nat} {a : Option Addr} {xs ds : List Value} {kids more : List ST} (h0 : m ⟨b, 0, none⟩ = some (.slice a kids.length c)) (h1 : m ⟨b, 1, none⟩ = some (ds.headD .nilIface)) (lk : lenOk kids.length c) (hl : xs.length = kids.length)
      (r : RowX m a xs) (e : ∀ i (h1 : i < xs.length) (h2 : i < kids.length), RT m xs[i] kids[i]) (hd : ds.length = more.length) (h2 : more.length ≤ 1) (e2 : ∀ i (h1 : i < ds.length) (h2 : i < more.length), RT m ds[i] more[i]) :
      RT m (.iface 94 (.pointer (some ⟨b, 0, none⟩))) (.mk 5 [] kids more)
  | obj {b c : Nat} {a : Option Addr} {ps : List Nat} {xs : List Value} {ks : List AK} {kids : List ST} {dv : Value} {ds : List Value} {more : List ST} (h0 : m ⟨b, 0, none⟩ = some (.slice a kids.length c)) (h1 : m ⟨b, 1, none⟩ = some dv) (lk : lenOk kids.length c)
      (hp : ps.length = kids.length) (hx : xs.length = kids.length) (hk : ks.length = kids.length) (r : RowX m a (ps.map fun p => .pointer (some ⟨p, 0, none⟩)))
      (e0 : ∀ i (h : i < ps.length) (h1 : i < ks.length), m ⟨ps[i], 0, none⟩ = some ks[i].v) (e1 : ∀ i (h : i < ps.length) (h1 : i < xs.length), m ⟨ps[i], 1, none⟩ = some xs[i]) (e : ∀ i (h1 : i < xs.length) (h2 : i < kids.length), RT m xs[i] kids[i])
      (so : ks.Pairwise AK.lt) (hd : dv = .pointer none ∧ more = [] ∨ ∃ q, dv = .pointer (some ⟨q, 0, none⟩) ∧ ds.length = 2 ∧ more.length = 2 ∧ ∀ i (h : i < ds.length), m ⟨q, i, none⟩ = some ds[i])
      (e2 : ∀ i (h1 : i < ds.length) (h2 : i < more.length), RT m ds[i] more[i]) :
      RT m (.iface 80 (.pointer (some ⟨b, 0, none⟩))) (.mk 6 (ks.map kyOf) kids more)
  | set {b : Nat} {x : Value} {t : ST} (h0 : m ⟨b, 0, none⟩ = some x) (e : RT m x t) : RT m (.iface 108 (.pointer (some ⟨b, 0, none⟩))) (.mk 7 [] [t] [])
  | any {c : Nat} {a : Option Addr} {xs : List Value} {kids : List ST} (lk : lenOk kids.length c) (hl : xs.length = kids.length) (r : RowX m a xs) (e : ∀ i (h1 : i < xs.length) (h2 : i < kids.length), RT m xs[i] kids[i]) :
      RT m (.iface 110 (.slice a kids.length c)) (.mk 8 [] kids [])
theorem RT.mono {m m' : Mem} (hm : MLe m m') {v : Value} {t : ST} (h : RT m v t) : RT m' v t := by
  induction h with
  | null => exact .null
  | bool => exact .bool
  | num => exact .num
  | str => exact .str
  | arr h0 h1 lk hl r e hd h2 e2 ih ih2 => exact .arr (hm _ _ h0) (hm _ _ h1) lk hl (r.mono hm) ih hd h2 ih2
  | obj h0 h1 lk hp hx hk r e0 e1 e so hd e2 ih ih2 =>
    refine .obj (hm _ _ h0) (hm _ _ h1) lk hp hx hk (r.mono hm) (fun i h h1 => hm _ _ (e0 i h h1)) (fun i h h1 => hm _ _ (e1 i h h1)) ih so (hd.imp id ?_) ih2
    rintro ⟨q, g1, g2, g3, g4⟩
    exact ⟨q, g1, g2, g3, fun i h => hm _ _ (g4 i h)⟩
  | set h0 e ih => exact .set (hm _ _ h0) ih
  | any lk hl r e ih => exact .any lk hl (r.mono hm) ih

/-- A property, behind its pointer. -/
def ESP (m : Mem) (c : List Value) (x : Pr) : Prop := ∃ p tv, c = [.pointer (some ⟨p, 0, none⟩)] ∧ m ⟨p, 0, none⟩ = some x.1.v ∧ m ⟨p, 1, none⟩ = some tv ∧ RT m tv x.2
theorem em_ESP : EM ESP := fun _ _ _ _ hm ⟨p, tv, h1, h2, h3, h4⟩ => ⟨p, tv, h1, hm _ _ h2, hm _ _ h3, h4.mono hm⟩
/-- A type. -/
def ET (m : Mem) (c : List Value) (x : ST) : Prop := ∃ v, c = [v] ∧ RT m v x
theorem em_ET : EM ET := fun _ _ _ _ hm ⟨v, h1, h2⟩ => ⟨v, h1, h2.mono hm⟩

def SrtP (m : Mem) (B : Nat) (w : World) (v : Value) (l : List Pr) (e : Ending) (w' : World) : Prop :=
  ∃ l' : List Pr, e = .returned (.tuple #[]) ∧ l'.Perm l ∧ l'.Pairwise (fun a b => AK.lt a.1 b.1) ∧ Own ESP m 100 1 B w' v l' ∧ w.grownBy w' v.ownBlock

theorem fr_not {m : Mem} {B : Nat} {w : World} {g : Nat} {a : Addr} {v : Value} (hB : B ≤ g) (h : fr m B w (some g) a = some v) : a.block ≠ g := fun e => by
  unfold fr at h
  rw [e, if_pos hB, if_pos rfl] at h
  cases h

theorem enters109 : ∀ args w, (callFunc 109 args).run Tryz.prog w = .ok (.enter 109 args) w := enters_of Tryz.func109 (by kernel_rfl) rfl

theorem srt117_none (p : Option Addr) (cap : Nat) (w : World) : Calls Tryz.prog 117 #[.slice p 0 cap, .func (.func 109) #[] #[]] w fun e w' => e = .returned (.tuple #[]) ∧ w' = w :=
  AnyF.slices_SortFunc_none (P := Tryz.prog) (ρ := Tryz.sortSP_ren) { Tryz.sortSP with } p cap _ w
theorem srt117 {α : Type} [Inhabited α] (enc : α → Value) (h1 : OneCell enc) (cf : α → α → Int) (hO : SWO (ltOf cf)) (blk cap : Nat) (d : Array α) (w : World)
    (hcmp : CmpLays1 Tryz.prog 109 #[] enc cf blk 0 d.size w) (hH : Holds enc w blk 0 d) (hblk : blk < w.heap.size) (hsz : d.size < 4611686018427387904) :
    Calls Tryz.prog 117 #[.slice (some ⟨blk, 0, none⟩) d.size cap, .func (.func 109) #[] #[]] w fun e w' =>
      e = .returned (.tuple #[]) ∧ ∃ d' n os, PermIn 0 d.size d d' ∧ SortedIn (ltOf cf) 0 d.size d' ∧ w' = sortWorld enc w blk 0 n d' os :=
  Any.slices_SortFunc (P := Tryz.prog) (ρ := Tryz.sortSP_ren) Tryz.sortSP enc h1 cf hO 109 #[] blk 0 cap d w enters109 hcmp hH hblk hsz

theorem getD_eq {α : Type} (l : List α) (x : α) {i : Nat} (h : i < l.length) : l.getD i x = l[i] := by rw [List.getD_eq_getElem?_getD, List.getElem?_eq_getElem h]; rfl

set_option maxRecDepth 100000 in
theorem sort117 {m : Mem} {B : Nat} {w : World} {v : Value} {l : List Pr} (hm : MLe m w.cell?) (hl : Lo m B) (h : Own ESP m 100 1 B w v l) (hne : l.Pairwise (fun a b => a.1 ≠ b.1)) (hn : l.length < 1000000) :
    Calls Tryz.prog 117 #[v, .func (.func 109) #[] #[]] w (SrtP m B w v l) := by
  obtain ⟨xs, ho, hx⟩ := h
  have hxl : xs.length = l.length := by have := ho.1; omega
  by_cases h0 : l.length = 0
  · have hl0 : l = [] := List.eq_nil_of_length_eq_zero h0
    subst hl0
    have hsl : ∃ p cap, v = .slice p 0 cap := by
      rcases ho.2 with ⟨rfl, _⟩ | ⟨g, cap, cur, rfl, _⟩
      · exact ⟨_, _, rfl⟩
      · exact ⟨_, _, rfl⟩
    obtain ⟨p, cap, rfl⟩ := hsl
    refine (srt117_none p cap w).mono ?_
    rintro e w' ⟨rfl, rfl⟩
    exact ⟨[], rfl, .refl _, .nil, ⟨xs, ho, hx⟩, ⟨rfl, rfl, rfl, Nat.le_refl _, fun _ _ _ => rfl⟩⟩
  · rcases ho.2 with ⟨_, h00⟩ | ⟨g, cap, cur, rfl, hB, hg, k1, k2, k3, k4⟩
    · exact absurd h00 h0
    · have hpos : 0 < l.length := by omega
      let x0 := xs[0]'(by omega)
      let l0 := l[0]
      let enc : Nat → Value := fun i => xs.getD i x0
      let f : Nat → Pr := fun i => l.getD i l0
      have hall : ∀ i, ESP (fr m B w (some g)) [enc i] (f i) := by
        intro i
        have hone : ∀ j (hj : j < l.length), ESP (fr m B w (some g)) [xs[j]'(by omega)] l[j] := fun j hj => by
          have := hx j hj
          have e : (xs.drop (j * 1)).take 1 = [xs[j]'(by omega)] := by
            rw [Nat.mul_one, List.drop_eq_getElem_cons (by omega)]; rfl
          rw [e] at this
          exact this
        by_cases hi : i < l.length
        · show ESP _ [xs.getD i x0] (l.getD i l0)
          rw [getD_eq _ _ (by omega : i < xs.length), getD_eq _ _ hi]
          exact hone i hi
        · show ESP _ [xs.getD i x0] (l.getD i l0)
          rw [List.getD_eq_getElem?_getD, List.getElem?_eq_none (by omega), List.getD_eq_getElem?_getD, List.getElem?_eq_none (by omega)]
          exact hone 0 hpos
      have hxs : xs = (List.range l.length).map enc := by
        refine List.ext_getElem (by simp [hxl]) fun i h1 h2 => ?_
        simp only [List.getElem_map, List.getElem_range]
        exact (getD_eq _ _ h1).symm
      have hlf : (List.range l.length).map f = l := by
        refine List.ext_getElem (by simp) fun i h1 h2 => ?_
        simp only [List.getElem_map, List.getElem_range]
        exact getD_eq _ _ h2
      have hblk := lt_blk hg
      have hds : (List.range l.length).toArray.size = l.length := by simp
      have hcells : ∀ j, j < l.length → w.cell? ⟨g, j, none⟩ = some (enc j) := fun j hj => by
        refine cell_blk hg j ?_
        have e1 : (cur.toList.take (l.length * 1))[j]? = xs[j]? := by rw [k4]
        rw [List.getElem?_take_of_lt (by omega)] at e1
        rw [← Array.getElem?_toList, e1, List.getElem?_eq_getElem (by omega)]
        exact congrArg some (getD_eq _ _ (by omega)).symm
      have hrun := srt117 enc (fun i => by obtain ⟨p, tv, e, _⟩ := hall i; simp only [List.cons.injEq, and_true] at e; rw [e]; rfl) (fun x y => AK.cmp (f x).1 (f y).1) (AK.swo fun i => (f i).1) g cap (List.range l.length).toArray w
        (by
          intro m' os dk hs x y
          obtain ⟨p, tv, e1, c1, _⟩ := hall x
          obtain ⟨q, tv', e2, c2, _⟩ := hall y
          simp only [List.cons.injEq, and_true] at e1 e2
          have p1 := fr_not hB c1
          have q1 := fr_not hB c2
          have c1' := fr_le hm _ _ c1
          have c2' := fr_le hm _ _ c2
          have d1 := (World.cell?_of_block (a := ⟨p, 0, none⟩) ((grownBy_srt (enc := enc) (w := w) (g := g) (n := m') (os := os) dk).block p (World.block_lt_of_cell? _ _ c1') (fun e => p1 (Option.some.inj e)))).trans c1'
          have d2 := (World.cell?_of_block (a := ⟨q, 0, none⟩) ((grownBy_srt (enc := enc) (w := w) (g := g) (n := m') (os := os) dk).block q (World.block_lt_of_cell? _ _ c2') (fun e => q1 (Option.some.inj e)))).trans c2'
          rw [e1, e2]
          exact (cmpSpKey_any _ _ _ _ _ d1 d2).mono fun e w' h => ⟨h.1, by obtain ⟨q, os', h⟩ := h.2; exact ⟨q, os', h⟩⟩)
        (by
          intro j hj
          have hj' : j < l.length := by simpa using hj
          refine ⟨?_, froz_blk hg _⟩
          rw [Nat.zero_add, hcells j hj']
          simp [hj'])
        hblk (by rw [hds]; omega)
      rw [hds] at hrun
      refine hrun.mono ?_
      rintro e w' ⟨rfl, d', n, os, hp, hs, rfl⟩
      obtain ⟨hp1, _, hp3⟩ := hp
      rw [hds] at hp1
      have hperm : d'.toList.Perm (List.range l.length) := by
        have e1 : d'.extract 0 l.length = d' := by rw [← hp1]; simp
        have e2 : (List.range l.length).toArray.extract 0 l.length = (List.range l.length).toArray := by
          conv => lhs; rw [← hds]
          simp
        rw [e1, e2] at hp3
        simpa using hp3
      have hnd : d'.toList.Nodup := hperm.nodup_iff.2 List.nodup_range
      have hmem : ∀ i ∈ d'.toList, i < l.length := fun i hi => List.mem_range.1 (hperm.mem_iff.1 hi)
      have hdl : d'.toList.length = l.length := by simpa using hp1
      refine ⟨d'.toList.map f, rfl, ?_, ?_, ?_, ?_⟩
      · have := hperm.map f
        rw [hlf] at this
        exact this
      · rw [List.pairwise_map, List.pairwise_iff_getElem]
        intro i j hi hj hij
        have hsd := hs i j (Nat.zero_le _) hij (by simpa using (by omega : j < l.length))
        have hi' : i < d'.size := by simpa using hi
        have hj' : j < d'.size := by simpa using hj
        rw [getElem!_pos d' j hj', getElem!_pos d' i hi'] at hsd
        have hnl := (AK.ltOf_not (fun i => (f i).1) d'[j] d'[i]).1 hsd
        rcases AK.lt_tri (f d'.toList[i]).1 (f d'.toList[j]).1 with h | h | h
        · exact h
        · exfalso
          have hneq : d'.toList[i] ≠ d'.toList[j] := by
            intro e
            have := (List.pairwise_iff_getElem.1 hnd) i j hi hj hij
            exact this e
          have ki := hmem _ (List.getElem_mem hi)
          have kj := hmem _ (List.getElem_mem hj)
          have e1 : f d'.toList[i] = l[d'.toList[i]] := getD_eq _ _ ki
          have e2 : f d'.toList[j] = l[d'.toList[j]] := getD_eq _ _ kj
          rw [e1, e2] at h
          rcases Nat.lt_or_gt_of_ne hneq with h3 | h3
          · exact (List.pairwise_iff_getElem.1 hne) _ _ ki kj h3 h
          · exact (List.pairwise_iff_getElem.1 hne) _ _ kj ki h3 h.symm
        · exact absurd h (by simpa using hnl)
      · refine ⟨d'.toList.map enc, ⟨by simp [hp1], .inr ⟨g, cap, _, by simp [hp1], hB, heap_srt d' hg, by simpa [hp1] using k1, k2, by simp [putCells, k3], ?_⟩⟩, ?_⟩
        · have := take_srt (enc := enc) cur d' (by rw [hp1, k3]; omega)
          simpa using this
        · intro i hi
          have hi2 : i < d'.toList.length := by simpa using hi
          have e1 : ((d'.toList.map enc).drop (i * 1)).take 1 = [enc d'.toList[i]] := by
            rw [Nat.mul_one, List.drop_eq_getElem_cons (by simpa using hi2)]
            simp
          have e2 : (d'.toList.map f)[i] = f d'.toList[i] := List.getElem_map ..
          rw [e1, e2]
          exact em_ESP _ _ _ _ (fr_step (fun k _ h2 h3 => (grownBy_srt (enc := enc) (n := n) (os := os) d').block k h2 h3) (.inl rfl)) (hall _)
      · exact grownBy_srt d'
end Go.Proofs.YtaglgokeejjagaaGreat
