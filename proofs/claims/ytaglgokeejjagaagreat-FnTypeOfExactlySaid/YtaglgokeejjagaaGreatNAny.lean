/- 'NewAny'. -/
import Derived.Test.YtaglgokeejjagaaGreatSrtT
import Derived.Test.YtaglgokeejjagaaGreatTyC
import Derived.Laws.CopyOwn
namespace Go.Proofs.YtaglgokeejjagaaGreat
set_option linter.unusedVariables false
set_option linter.unusedSimpArgs false
open Go.RowKit Go.Sort Go.Shelf

theorem info74' : (Tryz.prog.info? 74).map (fun i => (i.zero, i.size, i.bytes)) = some (some .nilIface, 1, 16) := by kernel_rfl
theorem size74 : (Tryz.prog.info? 74).map (·.size) = some 1 := by kernel_rfl

def ZtQ (m : Mem) (B : Nat) (w : World) (v : Value) (l : List ST) (e : Ending) (w' : World) : Prop :=
  e = .returned v ∧ Own ET m 74 1 B w' v (srtT l) ∧ w.grownBy w' v.ownBlock
set_option maxHeartbeats 1000000 in
set_option maxRecDepth 100000 in
theorem zzSorted110 {m : Mem} {B : Nat} {w : World} {v : Value} {l : List ST} (hm : MLe m (ucell w)) (hl : Lo m B) (h : Own ET m 74 1 B w v l) (hnt : ∀ s ∈ l, NT s) (hn : l.length < 1000000) :
    Calls Tryz.prog 110 #[v, .func (.func 48) #[] #[]] w (ZtQ m B w v l) := by
  obtain ⟨a, n, c, rfl⟩ : ∃ a n c, v = .slice a n c := by
    obtain ⟨xs, ho, _⟩ := h
    rcases ho.2 with ⟨rfl, _⟩ | ⟨g, cap, cur, rfl, _⟩ <;> exact ⟨_, _, _, rfl⟩
  have HC := Lib.hid (sort118 hm hl h hn)
  have HN := Lib.hid hnt
  clear h hm hnt
  go_enter Tryz.func110, Tryz.ntmps110
  go_wp2_with (go_at_call 118; refine HC.out.mono ?_; rintro e w2 ⟨l', rfl, h1, h2, h3, h4⟩)
  go_ret
  exact ⟨rfl, by rw [← srtT_of HN.out h1 h2]; exact h3, h4⟩

/-- A row that has been made, whole. -/
theorem made_blk {w1 : World} {B g n : Nat} (hown1 : w1.ownsRow B 74 1 (.slice (some ⟨g, 0, none⟩) n n) n (madeCells Value.nilIface.cells (n * 1)).toList) : w1.heap[g]? = some (.cells (List.replicate n Value.nilIface).toArray 74 (0, 0)) := by
  rcases hown1.2 with ⟨h, _⟩ | ⟨g', cap, cur, h, _, hg, _, _, h3, h4⟩
  · cases h
  · simp only [Value.slice.injEq, Option.some.injEq, Addr.mk.injEq, and_true, true_and] at h
    obtain ⟨rfl, rfl⟩ := h
    rw [hg]
    have e : cur.toList = List.replicate n Value.nilIface := by
      rw [List.take_of_length_le (by simp [h3])] at h4
      rw [h4]
      simp [Value.cells, toList_madeCells_one]
    have e2 : cur = (List.replicate n Value.nilIface).toArray := by rw [← e]
    rw [e2]
theorem add0 (b o j : Nat) : ((⟨b, o, none⟩ : Addr).add j) = ⟨b, o + j, none⟩ := by unfold Addr.add; split <;> simp_all

theorem own_blk {m : Mem} {B g : Nat} {w : World} {xs : List Value} {l : List ST} (hb : w.heap[g]? = some (.cells xs.toArray 74 (0, 0))) (hl : xs.length = l.length) (hB : B ≤ g) (hlo : Lo m B) (e : ∀ i (h1 : i < xs.length) (h2 : i < l.length), RT m xs[i] l[i]) (hn : l.length < 1000000) :
    Own ET m 74 1 B w (.slice (some ⟨g, 0, none⟩) l.length l.length) l := by
  refine ⟨xs, ⟨by omega, .inr ⟨g, l.length, xs.toArray, rfl, hB, hb, Nat.le_refl _, by simp [maxLen]; omega, by simp; omega, by rw [Nat.mul_one]; exact List.take_of_length_le (by simp; omega)⟩⟩, fun i hi => ⟨xs[i]'(by omega), ?_, (e i (by omega) hi).mono (fr_old hlo)⟩⟩
  rw [Nat.mul_one, List.drop_eq_getElem_cons (by omega)]; rfl
theorem splice_all {R xs : List Value} (h : R.length = xs.length) : splice R 0 xs = xs := by simp [splice, h]

def NaQ (m : Mem) (l : List ST) (w : World) (e : Ending) (w' : World) : Prop :=
  ∃ g, e = .returned (.slice (some ⟨g, 0, none⟩) l.length l.length) ∧ Own ET m 74 1 w.heap.size w' (.slice (some ⟨g, 0, none⟩) l.length l.length) (srtT l) ∧ Below w.heap.size w w'
set_option maxHeartbeats 2000000 in
set_option maxRecDepth 100000 in
theorem newAny_any {m : Mem} {w : World} {a : Option Addr} {c : Nat} {xs : List Value} {l : List ST} (lk : lenOk l.length c) (hl : xs.length = l.length) (r : RowX m a xs) (e : ∀ i (h1 : i < xs.length) (h2 : i < l.length), RT m xs[i] l[i]) (hm : MLe m (ucell w)) (hn : l.length < 1000000) :
    Calls Tryz.prog 85 #[.slice a l.length c] w (NaQ m l w) := by
  obtain ⟨lk1, lk2⟩ := lk
  have hlo : Lo m w.heap.size := lo_of_mle (hm.trans ucell_le)
  have HNT := Lib.hid (mem_of_ih (m := m) hl (fun i h1 h2 => (e i h1 h2).nt))
  have HR := Lib.hid r
  have HE := Lib.hid e
  have HM := Lib.hid hm
  have HL := Lib.hid hl
  have HLO := Lib.hid hlo
  have HN := Lib.hid hn
  clear r e hm hl hlo hn
  have HSRC := Lib.hid (show 0 < xs.length → ∃ ad, a = some ad ∧ ∀ j v, xs[j]? = some v → m (ad.add j) = some v from fun h0 => by
    obtain ⟨b, off, ea, _⟩ := rowX_get HR.out h0
    refine ⟨⟨b, off, none⟩, ea, fun j v hj => ?_⟩
    obtain ⟨hj1, hj2⟩ := List.getElem?_eq_some_iff.1 hj
    obtain ⟨b', off', ea', hc⟩ := rowX_get HR.out hj1
    rw [ea] at ea'; cases ea'
    rw [add0, hc, hj2])
  have HONE := Lib.hid (show ∀ v ∈ xs, v.oneCell' = true from fun v hv => by
    obtain ⟨i, hi, rfl⟩ := List.getElem_of_mem hv
    obtain ⟨T, y, e⟩ := (HE.out i hi (by have := HL.out; omega)).shape'
    rw [e]; rfl)
  obtain ⟨R, hR⟩ : ∃ R, R = List.replicate l.length Value.nilIface := ⟨_, rfl⟩
  have HRR := Lib.hid hR
  obtain ⟨i0, hi0, hz0, hz1, hz2⟩ := info_parts info74'
  have HZ2 := Lib.hid hz2
  clear hR hz2
  go_enter Tryz.func85, Tryz.ntmps85
  go_wp2_with (first | (at_make; refine wpList_make_full _ rfl _ _ 110 rfl w.heap.size 74 i0 .nilIface 1 Tryz.underlying110 hi0 hz0 hz1 .i64 .i64 _ _ l.length rfl rfl rfl rfl (by rw [HZ2.out]; have := HN.out; omega) (by have := HN.out; simp [maxLen]; omega) (Nat.le_refl _) ?_; intro w1 hown1 hg1; have HB1 := Lib.hid (show w1.heap[w.heap.size]? = some (.cells R.toArray 74 (0, 0)) by rw [HRR.out]; exact made_blk hown1); have HG1 := Lib.hid (gb_below hg1); clear hown1 hg1) | (refine wpList_copy_splice rfl (.tmp 7) (.tmp 8) 110 109 rfl 74 Tryz.underlying110 size74 _ _ _ _ _ _ rfl rfl w.heap.size 0 R 74 HB1.out xs (by rw [HL.out]; exact (Nat.min_self _).symm) (fun h0 => ⟨rfl, by obtain ⟨ad, e1, e2⟩ := HSRC.out h0; exact ⟨ad, e1, fun j v hj => (mle_below HG1.out) _ _ (ucell_le _ _ (HM.out _ _ (e2 j v hj)))⟩⟩) (by rw [HRR.out, HL.out]; simp) HONE.out w.heap.size w HG1.out (Nat.le_refl _) ?_; intro w2 HB2 hg2; have HG2 := Lib.hid hg2; clear hg2) | (go_at_call 110; refine (zzSorted110 (l := l) (HM.out.trans (mleU HG2.out)) HLO.out (own_blk (xs := xs) (by have h := HB2.out; rw [splice_all (by rw [HRR.out, HL.out]; simp)] at h; exact h) HL.out (Nat.le_refl _) HLO.out HE.out HN.out) HNT.out HN.out).mono ?_; rintro e w3 ⟨rfl, ho, hg⟩))
  go_ret
  exact ⟨_, rfl, ho, HG2.out.grown hg HG2.out.size (fun k e => by cases e; exact Nat.le_refl _)⟩
end Go.Proofs.YtaglgokeejjagaaGreat
