/- 'Over' of two objects: the walk. -/
import Derived.Test.YtaglgokeejjagaaGreatOvP
import Derived.Test.YtaglgokeejjagaaGreatTof
import Derived.Test.YtaglgokeejjagaaGreatWLast
namespace Go.Proofs.YtaglgokeejjagaaGreat
set_option linter.unusedVariables false
set_option linter.unusedSimpArgs false
open Go.RowKit Go.Sort Go.Proofs.YtaglgokeejjagaaGreatW.PrintLast

theorem keep_al {W : World} {ob : Obj} {a : Addr} {x : Value} (h : W.cell? a = some x) : (W.alloc ob).cell? a = some x := ((Gr.refl W).alloc ob).cell h
/-- Between two rounds of 'Over': the memory. -/
def OvM (m : Mem) (w : World) (o1 o2 : Obj) (out : List KV) (vcs : List (List Value)) (vk vv : Value) (wr : World) : Prop :=
  vcs.length = out.length ∧ wr.heap[w.heap.size]? = some o1 ∧ wr.heap[w.heap.size + 1]? = some o2 ∧ wr.heap[w.heap.size + 1 + 1]? = some (.cells #[.int .i64 0, .string ⟨#[]⟩, .slice none 0 0, .slice none 0 0] 36 (0, 0)) ∧
    wr.heap[w.heap.size + 1 + 1 + 1]? = some (.cells #[.int .i64 6, .string ⟨#[]⟩, vk, vv] 36 (0, 0)) ∧ Own EC m0 9 1 (w.heap.size + 4) wr vk (out.map fun p => [.string p.1]) ∧ Own EC m0 36 4 (w.heap.size + 4) wr vv vcs ∧
    (∀ i (h1 : i < vcs.length) (h2 : i < out.length), MV m vcs[i] (out[i]).2) ∧ (∀ g, vk.ownBlock = some g → vv.ownBlock ≠ some g) ∧ Below w.heap.size w wr ∧ w.heap.size + 4 ≤ wr.heap.size
theorem OvM.bl {m : Mem} {w : World} {o1 o2 : Obj} {out : List KV} {vcs : List (List Value)} {vk vv : Value} {wr W : World} (h : OvM m w o1 o2 out vcs vk vv wr) (hb : Below wr.heap.size wr W) : OvM m w o1 o2 out vcs vk vv W := by
  obtain ⟨h1, h2, h3, h4, h5, h6, h7, h8, h9, h10, h11⟩ := h
  exact ⟨h1, bl_heap hb h2, bl_heap hb h3, bl_heap hb h4, bl_heap hb h5, h6.bl em_EC hb, h7.bl em_EC hb, h8, h9, bl_trans h10 hb, Nat.le_trans h11 hb.size⟩
/-- Inside the region that lengthens the two rows. -/
structure OvF (w : World) (B : Nat) (key : ByteArray) (kc : List Value) (ck : Value) (lk : List (List Value)) (cv : Value) (lv : List (List Value)) (t7 t16 : Option Value) (W0 W : World) : Prop where
  sz : B ≤ W.heap.size
  hw : w.heap.size ≤ B
  bel : Below w.heap.size w W
  low : ∀ k ob, k < B → W0.heap[k]? = some ob → W.heap[k]? = some ob
  ks : Own EC m0 9 1 B W ck lk
  vs : Own EC m0 36 4 B W cv lv
  dis : ∀ g, ck.ownBlock = some g → cv.ownBlock ≠ some g
  c7 : ∀ g c, t7 = some (.slice (some ⟨g, 0, none⟩) 1 c) → ∀ j u, [Value.string key][j]? = some u → W.cell? ⟨g, j, none⟩ = some u
  c16 : ∀ g c, t16 = some (.slice (some ⟨g, 0, none⟩) 1 c) → g < W.heap.size ∧ ck.ownBlock ≠ some g ∧ ∀ j u, kc[j]? = some u → W.cell? ⟨g, j, none⟩ = some u
section
variable {w : World} {B : Nat} {key : ByteArray} {kc : List Value} {ck : Value} {lk : List (List Value)} {cv : Value} {lv : List (List Value)} {t7 t16 : Option Value} {W0 W W' : World}
theorem OvF.al (h : OvF w B key kc ck lk cv lv t7 t16 W0 W) (ob : Obj) : OvF w B key kc ck lk cv lv t7 t16 W0 (W.alloc ob) :=
  ⟨by have := h.sz; simp; omega, h.hw, bl_alloc h.bel _, fun k o hk e => al_old (h.low k o hk e), h.ks.alloc em_EC _, h.vs.alloc em_EC _, h.dis, fun g c e j u hu => keep_al (h.c7 g c e j u hu), fun g c e => ⟨by have := (h.c16 g c e).1; simp; omega, (h.c16 g c e).2.1, fun j u hu => keep_al ((h.c16 g c e).2.2 j u hu)⟩⟩
theorem OvF.k7 (h : OvF w B key kc ck lk cv lv none t16 W0 W) : OvF w B key kc ck lk cv lv (some (.slice (some ⟨W.heap.size, 0, none⟩) 1 1)) t16 W0 (W.alloc (.cells #[.string key] 9)) := by
  have h2 := h.al (.cells #[.string key] 9)
  refine ⟨h2.sz, h2.hw, h2.bel, h2.low, h2.ks, h2.vs, h2.dis, fun g c e j u hu => ?_, h2.c16⟩
  injection e with e; injection e with e; injection e with e; injection e with e
  subst e
  exact cells_new W [Value.string key] 9 j u hu
theorem OvF.k16 (h : OvF w B key kc ck lk cv lv t7 none W0 W) : OvF w B key kc ck lk cv lv t7 (some (.slice (some ⟨W.heap.size, 0, none⟩) 1 1)) W0 (W.alloc (.cells kc.toArray 36)) := by
  have h2 := h.al (.cells kc.toArray 36)
  refine ⟨h2.sz, h2.hw, h2.bel, h2.low, h2.ks, h2.vs, h2.dis, h2.c7, fun g c e => ?_⟩
  injection e with e; injection e with e; injection e with e; injection e with e
  subst e
  exact ⟨by simp, fun e => by have := (h.ks.lt _ e).2; omega, fun j u hu => cells_new W kc 36 j u hu⟩
theorem OvF.snocK {g c : Nat} (h : OvF w B key kc ck lk cv lv (some (.slice (some ⟨g, 0, none⟩) 1 c)) t16 W0 W) (hfit : (lk.length + 1) * 16 ≤ 140737488355328) (hsm : lk.length + 1 ≤ maxLen) : Snoc Tryz.prog EC m0 26 9 1 B W ck lk g c [.string key] [.string key] :=
  ⟨h.ks, lo_m0 _, h.c7 g c rfl, rfl, by simp [Value.oneCell'], ⟨W.heap.size, rfl, h.sz, fun k e => (h.ks.lt k e).2⟩, ⟨16, sl26, hfit⟩, hsm, h.sz⟩
theorem OvF.snocV {g c : Nat} (h : OvF w B key kc ck lk cv lv t7 (some (.slice (some ⟨g, 0, none⟩) 1 c)) W0 W) (h4 : kc.length = 4) (h1 : ∀ u ∈ kc, u.oneCell' = true) (hfit : (lv.length + 1) * 72 ≤ 140737488355328) (hsm : lv.length + 1 ≤ maxLen) : Snoc Tryz.prog EC m0 34 36 4 B W cv lv g c kc kc :=
  ⟨h.vs, lo_m0 _, (h.c16 g c rfl).2.2, h4, h1, ⟨W.heap.size, rfl, h.sz, fun k e => (h.vs.lt k e).2⟩, ⟨72, sl34, hfit⟩, hsm, h.sz⟩
theorem OvF.k8 {g n c : Nat} (h : OvF w B key kc ck lk cv lv t7 t16 W0 W) (hown : Own EC m0 9 1 B W' (.slice (some ⟨g, 0, none⟩) n c) (lk ++ [[.string key]])) (hg : W.grownBy W' ck.ownBlock) (hgg : ck.ownBlock = some g ∨ g = W.heap.size) :
    OvF w B key kc (.slice (some ⟨g, 0, none⟩) n c) (lk ++ [[.string key]]) cv lv none t16 W0 W' := by
  have hs := hg.size
  have hlow : ∀ k, ck.ownBlock = some k → B ≤ k := fun k e => (h.ks.lt k e).1
  have hhw := h.hw
  refine ⟨Nat.le_trans h.sz hs, h.hw, bl_grown h.bel hg (fun k e => by have := hlow k e; omega), fun k o hk e => grown_heap hg (h.low k o hk e) (fun q e => by have := hlow q e; omega), hown, h.vs.flat (fun _ _ _ _ h => h) hg (fun k e q => h.dis k q e), fun k e q => ?_, (fun g c e => by cases e), fun g' c' e => ?_⟩
  · have : g = k := by simpa [Value.ownBlock] using e
    subst this
    rcases hgg with r | r
    · exact h.dis g r q
    · have := (h.vs.lt g q).2; omega
  · obtain ⟨q1, q2, q3⟩ := h.c16 g' c' e
    refine ⟨by omega, fun e => ?_, fun j u hu => ?_⟩
    · have : g = g' := by simpa [Value.ownBlock] using e
      subst this
      rcases hgg with r | r
      · exact q2 r
      · omega
    · exact (World.cell?_of_block (a := ⟨g', j, none⟩) (hg.block g' q1 (fun e => q2 e.symm))).trans (q3 j u hu)
theorem OvF.k17 {g n c : Nat} (h : OvF w B key kc ck lk cv lv none t16 W0 W) (hown : Own EC m0 36 4 B W' (.slice (some ⟨g, 0, none⟩) n c) (lv ++ [kc])) (hg : W.grownBy W' cv.ownBlock) (hgg : cv.ownBlock = some g ∨ g = W.heap.size) :
    OvF w B key kc ck lk (.slice (some ⟨g, 0, none⟩) n c) (lv ++ [kc]) none none W0 W' := by
  have hs := hg.size
  have hlow : ∀ k, cv.ownBlock = some k → B ≤ k := fun k e => (h.vs.lt k e).1
  have hhw := h.hw
  refine ⟨Nat.le_trans h.sz hs, h.hw, bl_grown h.bel hg (fun k e => by have := hlow k e; omega), fun k o hk e => grown_heap hg (h.low k o hk e) (fun q e => by have := hlow q e; omega), h.ks.flat (fun _ _ _ _ h => h) hg (fun k e q => h.dis k e q), hown, fun k e q => ?_, (fun g c e => by cases e), fun g' c' e => by cases e⟩
  have : g = k := by simpa [Value.ownBlock] using q
  subst this
  rcases hgg with r | r
  · exact h.dis g e r
  · have := (h.ks.lt g e).2; omega
theorem OvF.cell (h : OvF w B key kc ck lk cv lv t7 t16 W0 W) {m : Mem} (hm : MLe m w.cell?) {a : Addr} {x : Value} (e : m a = some x) : W.cell? a = some x := (hm.trans (mle_below h.bel)) _ _ e
end
theorem ovF_start {m : Mem} {w : World} {o1 o2 : Obj} {out : List KV} {vcs : List (List Value)} {vk vv : Value} {W : World} (h : OvM m w o1 o2 out vcs vk vv W) (key : ByteArray) (kc : List Value) : OvF w (w.heap.size + 4) key kc vk (out.map fun p => [.string p.1]) vv vcs none none W W.drew := by
  obtain ⟨h1, h2, h3, h4, h5, h6, h7, h8, h9, h10, h11⟩ := h
  exact ⟨h11, by omega, h10.drew, fun k ob _ e => e, h6.drew em_EC, h7.drew em_EC, h9, (fun g c e => by cases e), fun g c e => by cases e⟩
theorem ovF_end {m : Mem} {w : World} {o1 o2 : Obj} {out : List KV} {vcs : List (List Value)} {vk vv ck cv : Value} {W W3 : World} {key : ByteArray} {x : Vl} {c : List Value} (h : OvM m w o1 o2 out vcs vk vv W) (hc : MV m c x)
    (hF : OvF w (w.heap.size + 4) key c ck ((out.map fun p => [.string p.1]) ++ [[.string key]]) cv (vcs ++ [c]) none none W W3) :
    OvM m w o1 o2 (out ++ [(key, x)]) (vcs ++ [c]) ck cv ((W3.setCell ⟨w.heap.size + 1 + 1 + 1, 2, none⟩ ck).setCell ⟨w.heap.size + 1 + 1 + 1, 3, none⟩ cv) := by
  obtain ⟨h1, h2, h3, h4, h5, h6, h7, h8, h9, h10, h11⟩ := h
  have l1 : w.heap.size + 1 + 1 + 1 < w.heap.size + 4 := by omega
  refine ⟨by simp [h1], ?_, ?_, ?_, ?_, ?_, (hF.vs.setLow em_EC l1 _).setLow em_EC l1 _, ?_, hF.dis, ?_, by have := hF.sz; simp; omega⟩
  · exact set_old (set_old (hF.low _ _ (by omega) h2) (by simp; omega)) (by simp; omega)
  · exact set_old (set_old (hF.low _ _ (by omega) h3) (by simp)) (by simp)
  · exact set_old (set_old (hF.low _ _ (by omega) h4) (by simp)) (by simp)
  · exact set_blk (set_blk (hF.low _ _ (by omega) h5) 2 _) 3 _
  · rw [List.map_append]
    exact (hF.ks.setLow em_EC l1 _).setLow em_EC l1 _
  · intro i q1 q2
    by_cases hi : i < vcs.length
    · rw [List.getElem_append_left hi, List.getElem_append_left (by omega)]; exact h8 i hi (by omega)
    · obtain rfl : i = vcs.length := by simp at q1; omega
      rw [List.getElem_concat_length rfl]
      have : (out ++ [(key, x)])[vcs.length] = (key, x) := by simp [h1]
      rw [this]; exact hc
  · have hle : w.heap.size ≤ w.heap.size + 1 + 1 + 1 := by omega
    exact (hF.bel.setCell hle _).setCell hle _
/-- What 'Over' gives. -/
def OvQ (m : Mem) (v u : Vl) (w : World) (e : Ending) (w' : World) : Prop := ∃ (out : List KV) (ak : Option Addr) (nk ck : Nat) (a1 : Option Addr) (n1 c1 : Nat), e = .returned (.agg #[.int .i64 6, .string ⟨#[]⟩, .slice ak nk ck, .slice a1 n1 c1]) ∧ OvR v u out ∧ MV (fr m w.heap.size w' none) (vlCells 6 ⟨#[]⟩ ak nk ck a1 n1 c1) (obV out) ∧ Below w.heap.size w w'

theorem row_congr {m : Mem} {sz : Nat} {a : Option Addr} {n : Nat} {f g : Nat → List Value} (h : Row m sz a n f) (e : ∀ i, i < n → g i = f i) : Row m sz a n g := fun hn => by
  obtain ⟨b, off, ea, hc⟩ := h hn
  exact ⟨b, off, ea, fun i hi j v hj => hc i hi j v (by rw [← e i hi]; exact hj)⟩
theorem Own.rowEG {m : Mem} {e sz B B' : Nat} {w : World} {v : Value} {l : List (List Value)} (h : Own EC m0 e sz B w v l) (hl : Lo m B') (hB : B' ≤ B) : ∃ a c, v = .slice a l.length c ∧ lenOk l.length c ∧ Row (fr m B' w none) sz a l.length (fun i => l.getD i []) := by
  obtain ⟨a, c, f, rfl, h1, h2, hr, hx⟩ := h.row em_EC
  refine ⟨a, c, rfl, ⟨h1, Nat.le_trans h2 (by simp [maxLen])⟩, fun hn => ?_⟩
  obtain ⟨b, off, e, hc⟩ := hr hn
  refine ⟨b, off, e, fun i hi j u hj => ?_⟩
  have hfi : f i = l[i] := hx i hi
  have := hc i hi j u (by rw [hfi]; simpa [hi] using hj)
  unfold fr at this ⊢
  split at this
  · rename_i h1
    rw [if_neg (by simp)] at this
    rw [if_pos (Nat.le_trans hB h1), if_neg (by simp)]
    exact this
  · cases this
theorem ov_end {m : Mem} {w : World} {o1 o2 : Obj} {out : List KV} {vcs : List (List Value)} {vk vv : Value} {wr : World} (h : OvM m w o1 o2 out vcs vk vv wr) (hl : Lo m (w.heap.size + 4)) : ∃ ak ck a1 c1, vk = .slice ak out.length ck ∧ vv = .slice a1 out.length c1 ∧ MV (fr m (w.heap.size + 4) wr none) (vlCells 6 ⟨#[]⟩ ak out.length ck a1 out.length c1) (obV out) := by
  obtain ⟨h1, h2, h3, h4, h5, h6, h7, h8, h9, h10, h11⟩ := h
  obtain ⟨a, c, rfl, la, ra⟩ := h6.rowEG hl (Nat.le_refl _)
  obtain ⟨a', c', rfl, lq_, rb⟩ := h7.rowEG hl (Nat.le_refl _)
  rw [h1] at lq_ rb
  simp only [List.length_map] at la ra
  refine ⟨a, c, a', c', by simp, by rw [h1], ?_⟩
  have e1 : out.length = (out.map (·.1)).length := by simp
  have e2 : out.length = (out.map (·.2)).length := by simp
  have hrs : RowS (fr m (w.heap.size + 4) wr none) a (out.map (·.1)) := by
    unfold RowS
    rw [← e1]
    exact row_congr ra fun i hi => by simp [hi, strCells]
  have hrv : RowV (fr m (w.heap.size + 4) wr none) a' (out.map (·.2)) := by
    refine ⟨_, by rw [← e2]; exact rb, fun i hi => ?_⟩
    have hi' : i < out.length := by simpa using hi
    have := h8 i (by omega) hi'
    rw [List.getElem_map]
    have hv : vcs.getD i [] = vcs[i] := by simp [h1, hi']
    rw [hv]
    exact this.mono (fr_old hl)
  have := MV.close (m := fr m (w.heap.size + 4) wr none) (kd := 6) (tx := ⟨#[]⟩) (ks := out.map (·.1)) (kids := out.map (·.2)) (by rw [← e1]; exact la) (by rw [← e2]; exact lq_) hrs hrv
  rw [← e1, ← e2] at this
  exact this

set_option maxHeartbeats 8000000 in
set_option maxRecDepth 100000 in
theorem over_any {v u : Vl} {m : Mem} {kv ku : Int} {tv tu : ByteArray} {akv a1v aku a1u : Option Addr} {nkv ckv n1v c1v nku cku n1u c1u : Nat} {w : World} (hv : MV m (vlCells kv tv akv nkv ckv a1v n1v c1v) v) (hu : MV m (vlCells ku tu aku nku cku a1u n1u c1u) u) (pv : PV v) (pu : PV u) (k6 : v.kind = 6) (k6' : u.kind = 6) (hwv : WV v ≤ 5000) (hwu : WV u ≤ 5000) (hm : MLe m w.cell?) :
    Calls Tryz.prog 28 #[.agg #[.int .i64 kv, .string tv, .slice akv nkv ckv, .slice a1v n1v c1v], .agg #[.int .i64 ku, .string tu, .slice aku nku cku, .slice a1u n1u c1u]] w (OvQ m v u w) := by
  obtain ⟨rfl, rfl, rfl, rfl, ⟨lk1, lk2⟩, ⟨l11, l12⟩, rk, r1⟩ := hv.open
  obtain ⟨rfl, rfl, rfl, rfl, ⟨lk1', lk2'⟩, ⟨l11', l12'⟩, rk', r1'⟩ := hu.open
  have HKV := Lib.hid rk
  have HRV := Lib.hid r1
  have HKU := Lib.hid rk'
  have HRU := Lib.hid r1'
  have HM := Lib.hid hm
  have HLO := Lib.hid (lo_of_mle hm)
  have HPV := Lib.hid pv
  have HPU := Lib.hid pu
  have H6 := Lib.hid k6
  have H6' := Lib.hid k6'
  have HLV := Lib.hid (pv.len k6)
  have HLU := Lib.hid (pu.len k6')
  have HNV := Lib.hid (show v.kids.length ≤ 5000 from Nat.le_trans (WV_kids v) hwv)
  have HNU := Lib.hid (show u.kids.length ≤ 5000 from Nat.le_trans (WV_kids u) hwu)
  have hmix := mix_t
  clear rk r1 rk' r1' hm hv hu pv pu hwv hwu k6 k6'
  go_enter Tryz.func28, Tryz.ntmps28
  go_wp2
  go_loopw [6, 7] (fun si sj wr => ∃ (i j : Nat) (out : List KV) (vcs : List (List Value)) (vk vv : Value), i ≤ v.keys.length ∧ j ≤ u.keys.length ∧ si = .int .i64 i ∧ sj = .int .i64 j ∧ Hid (OvM m w (.cells #[.int .i64 v.kind, .string v.text, .slice akv v.keys.length ckv, .slice a1v v.kids.length c1v] 36 (0, 0)) (.cells #[.int .i64 u.kind, .string u.text, .slice aku u.keys.length cku, .slice a1u u.kids.length c1u] 36 (0, 0)) out vcs vk vv wr ∧ OvI v u i j out)) (fun si sj _ => (v.keys.length - (intOf si).toNat) + (u.keys.length - (intOf sj).toNat))
  case atStart =>
    refine ⟨0, 0, [], [], .slice none 0 0, .slice none 0 0, Nat.zero_le _, Nat.zero_le _, rfl, rfl, ⟨rfl, ?_, ?_, ?_, ?_, Own.nil .., Own.nil .., fun i h => absurd h (Nat.not_lt_zero _), fun g h => by simp [Value.ownBlock] at h, ?_, by simp⟩, ovI_start v u⟩
    · exact al_old (al_old (al_old (al_new rfl)))
    · exact al_old (al_old (al_new (by simp)))
    · exact al_old (al_new (by simp))
    · exact al_new (by simp)
    · repeat (first | exact Below.refl _ _ | refine Below.alloc ?_ (by simp; try omega) _)
  case round =>
    obtain ⟨i, j, out, vcs, vk, vv, hi0, hj0, rfl, rfl, hI⟩ := hrel
    obtain ⟨x0, x1, x2, x3⟩ := cells4 hI.out.1.2.1
    obtain ⟨y0, y1, y2, y3⟩ := cells4 hI.out.1.2.2.1
    have hsz := lt_blk hI.out.1.2.2.2.2.1
    have HX := Lib.hid hI.out.1.2.1
    have HY := Lib.hid hI.out.1.2.2.1
    have HMR := Lib.hid (HM.out.trans (mle_below hI.out.1.2.2.2.2.2.2.2.2.2.1))
    by_cases hi : i < v.keys.length
    · skip
      have hik : i < v.kids.length := by have := HLV.out; omega
      obtain ⟨kb, koff, rfl, q0⟩ := HKV.out.at hi
      obtain ⟨xb, xoff, kd1, tx1, ak1, nk1, ck1, a11, n11, c11, rfl, e0, e1, e2, e3, hkv⟩ := HRV.out.at hik
      have Q1 := Lib.hid q0
      have E10 := Lib.hid e0
      have E11 := Lib.hid e1
      have E12 := Lib.hid e2
      have E13 := Lib.hid e3
      have HC1 := Lib.hid (show MV m [.int .i64 kd1, .string tx1, .slice ak1 nk1 ck1, .slice a11 n11 c11] v.kids[i] from hkv)
      have HQB1 := Lib.hid (show kb < w.heap.size + 4 from Nat.lt_of_lt_of_le (World.block_lt_of_cell? _ _ (HM.out _ _ q0)) (Nat.le_add_right _ _))
      have HEB1 := Lib.hid (show xb < w.heap.size + 4 from Nat.lt_of_lt_of_le (World.block_lt_of_cell? _ _ (HM.out _ _ e0)) (Nat.le_add_right _ _))
      clear q0 e0 e1 e2 e3 hkv
      by_cases hj : j < u.keys.length
      · skip
        have hjk : j < u.kids.length := by have := HLU.out; omega
        obtain ⟨lq_, loff, rfl, q0⟩ := HKU.out.at hj
        obtain ⟨yb, yoff, kd2, tx2, ak2, nk2, ck2, a12, n12, c12, rfl, e0, e1, e2, e3, hkv⟩ := HRU.out.at hjk
        have Q2 := Lib.hid q0
        have E20 := Lib.hid e0
        have E21 := Lib.hid e1
        have E22 := Lib.hid e2
        have E23 := Lib.hid e3
        have HC2 := Lib.hid (show MV m [.int .i64 kd2, .string tx2, .slice ak2 nk2 ck2, .slice a12 n12 c12] u.kids[j] from hkv)
        have HQB2 := Lib.hid (show lq_ < w.heap.size + 4 from Nat.lt_of_lt_of_le (World.block_lt_of_cell? _ _ (HM.out _ _ q0)) (Nat.le_add_right _ _))
        have HEB2 := Lib.hid (show yb < w.heap.size + 4 from Nat.lt_of_lt_of_le (World.block_lt_of_cell? _ _ (HM.out _ _ e0)) (Nat.le_add_right _ _))
        clear q0 e0 e1 e2 e3 hkv
        have hje : ((j : Int) == (u.keys.length : Int)) = false := by simp; omega
        rcases less_tri v.keys[i] u.keys[j] with hls | heq | hgt
        · have hls2 : Op.bytesLess v.keys[i].toList u.keys[j].toList = true := hls
          have HLS := Lib.hid hls
          clear hls
          go_wp2_with fail
          have A0 := fun n os => (gr_grow wr n os).cell x2
          have A1 := fun n os => (gr_grow wr n os).cell y2
          have A2 := fun n os => (gr_grow wr n os).cell (HMR.out _ _ Q1.out)
          have A3 := fun n os => (gr_grow wr n os).cell (HMR.out _ _ Q2.out)
          refine wp_region_quiet_grown hmix (by kernel_rfl) ?_
          repeat (go_big_quiet_step (fail))
          refine wpQuiet_nil ?_
          intro _ hw'
          obtain ⟨⟨nq, osq⟩, hw''⟩ := hw'
          subst hw''
          have HW := Lib.hid (OvM.bl hI.out.1 (gr_grow wr nq osq).below)
          have HMW := Lib.hid ((HMR.out).trans (mle_below (gr_grow wr nq osq).below))
          clear A0 A1 A2 A3
          generalize grow (wr.drewN nq) osq = W at HW HMW ⊢
          have HXW := Lib.hid HW.out.2.1
          have HYW := Lib.hid HW.out.2.2.1
          have HBW := Lib.hid HW.out.2.2.2.2.1
          clear x0 x1 x2 x3 y0 y1 y2 y3 hls2 hje
          go_wp2_with fail
          have HL := Lib.hid (show ((out.map fun p => [Value.string p.1]).length + 1) * 16 ≤ 140737488355328 ∧ (out.map fun p => [Value.string p.1]).length + 1 ≤ maxLen ∧ (vcs.length + 1) * 72 ≤ 140737488355328 ∧ vcs.length + 1 ≤ maxLen from by have h1 := HNV.out; have h2 := HNU.out; have h3 := HLV.out; have h4 := HLU.out; have h5 := hI.out.2.len; have h6 := hI.out.1.1; simp [maxLen]; omega)
          have hF_st := Lib.hid (ovF_start HW.out v.keys[i] [.int .i64 kd1, .string tx1, .slice ak1 nk1 ck1, .slice a11 n11 c11])
          refine start_ (n := 22) (S := fun w' => w'.cell? ⟨w.heap.size + 1 + 1 + 1, 2, none⟩ = some vk ∧ w'.cell? ⟨w.heap.size + 1 + 1 + 1, 3, none⟩ = some vv ∧ w'.cell? ⟨w.heap.size, 2, none⟩ = some (.slice (some ⟨kb, koff, none⟩) v.keys.length ckv) ∧ w'.cell? ⟨w.heap.size, 3, none⟩ = some (.slice (some ⟨xb, xoff, none⟩) v.kids.length c1v) ∧ w'.cell? ⟨kb, koff + i, none⟩ = some (.string v.keys[i]) ∧ w'.cell? ⟨xb, xoff + i * 4, none⟩ = some (.int .i64 kd1) ∧ w'.cell? ⟨xb, xoff + i * 4 + 1, none⟩ = some (.string tx1) ∧ w'.cell? ⟨xb, xoff + i * 4 + 2, none⟩ = some (.slice ak1 nk1 ck1) ∧ w'.cell? ⟨xb, xoff + i * 4 + 3, none⟩ = some (.slice a11 n11 c11)) (ds := [19, 21]) (lb 22 0) (by kernel_rfl) rfl rfl ⟨cell_blk (hF_st.out.low _ _ (by omega) HBW.out) 2 rfl, cell_blk (hF_st.out.low _ _ (by omega) HBW.out) 3 rfl, cell_blk (hF_st.out.low _ _ (by omega) HXW.out) 2 rfl, cell_blk (hF_st.out.low _ _ (by omega) HXW.out) 3 rfl, hF_st.out.cell HM.out Q1.out, hF_st.out.cell HM.out E10.out, hF_st.out.cell HM.out E11.out, hF_st.out.cell HM.out E12.out, hF_st.out.cell HM.out E13.out⟩ (fun hHeld => ?_)
          refine pure_ (i := 0) (N := some 89) (v := ?_) (a' := ?_) (lb 22 1) rfl rfl (by kernel_rfl) (fun _ _ _ h => h) (Or.inl ⟨by rfl, ?_⟩) ?_ ?_
          rotate_left
          · intro w'
            go_simp
            with_reducible rfl
          rotate_left
          · simp only [Act.put, nrA, nrB, nrC, i64_w, i32_w]
            rfl
          refine pure_ (i := 2) (N := some 91) (v := ?_) (a' := ?_) (lb 22 5) rfl rfl (by kernel_rfl) (fun _ _ _ h => h) (Or.inl ⟨by rfl, ?_⟩) ?_ ?_
          rotate_left
          · intro w'
            go_simp
            with_reducible rfl
          rotate_left
          · simp only [Act.put, nrA, nrB, nrC, i64_w, i32_w]
            rfl
          refine pure_ (i := 4) (N := some 93) (v := ?_) (a' := ?_) (lb 22 21) rfl rfl (by kernel_rfl) (fun _ _ _ h => h) (Or.inl ⟨by rfl, ?_⟩) ?_ ?_
          rotate_left
          · intro w'
            go_simp
            with_reducible rfl
          rotate_left
          · simp only [Act.put, nrA, nrB, nrC, i64_w, i32_w]
            rfl
          refine pure_ (i := 9) (N := some 98) (v := ?_) (a' := ?_) (lb 22 533) rfl rfl (by kernel_rfl) (fun _ _ _ h => h) (Or.inl ⟨by rfl, ?_⟩) ?_ ?_
          rotate_left
          · intro w'
            go_simp
            with_reducible rfl
          rotate_left
          · simp only [Act.put, nrA, nrB, nrC, i64_w, i32_w]
            rfl
          refine pure_ (i := 11) (N := some 100) (v := ?_) (a' := ?_) (lb 22 2581) rfl rfl (by kernel_rfl) (fun _ _ _ h => h) (Or.inl ⟨by rfl, ?_⟩) ?_ ?_
          rotate_left
          · intro w'
            go_simp
            with_reducible rfl
          rotate_left
          · simp only [Act.put, nrA, nrB, nrC, i64_w, i32_w]
            rfl
          refine pure_ (i := 13) (N := some 102) (v := ?_) (a' := ?_) (lb 22 10773) rfl rfl (by kernel_rfl) (fun _ _ _ h => h) (Or.inl ⟨by rfl, ?_⟩) ?_ ?_
          rotate_left
          · intro w'
            go_simp
            with_reducible rfl
          rotate_left
          · simp only [Act.put, nrA, nrB, nrC, i64_w, i32_w]
            rfl
          refine take_ (i := 1) (N := some 90) (v := ?_) (a' := ?_) (lb 22 10775) rfl rfl (by kernel_rfl) (fun _ _ _ h => h) (Or.inl ⟨by rfl, ?_⟩) hHeld ?_ ?_
          rotate_left
          · rintro w' ⟨s0, s1, s2, s3, s4, s5, s6, s7, s8⟩
            go_simp
            with_reducible rfl
          rotate_left
          · simp only [Act.put, nrA, nrB, nrC, i64_w, i32_w]
            rfl
          refine take_ (i := 3) (N := some 92) (v := ?_) (a' := ?_) (lb 22 10783) rfl rfl (by kernel_rfl) (fun _ _ _ h => h) (Or.inl ⟨by rfl, ?_⟩) hHeld ?_ ?_
          rotate_left
          · rintro w' ⟨s0, s1, s2, s3, s4, s5, s6, s7, s8⟩
            go_simp
            with_reducible rfl
          rotate_left
          · simp only [Act.put, nrA, nrB, nrC, i64_w, i32_w]
            rfl
          refine pure_ (i := 5) (N := some 94) (v := ?_) (a' := ?_) (lb 22 10815) rfl rfl (by kernel_rfl) (fun _ _ _ h => h) (Or.inl ⟨by rfl, ?_⟩) ?_ ?_
          rotate_left
          · intro w'
            go_simp
            with_reducible rfl
          rotate_left
          · simp only [Act.put, nrA, nrB, nrC, i64_w, i32_w]
            rfl
          refine take_ (i := 6) (N := some 95) (v := ?_) (a' := ?_) (lb 22 10879) rfl rfl (by kernel_rfl) (fun _ _ _ h => h) (Or.inl ⟨by rfl, ?_⟩) hHeld ?_ ?_
          rotate_left
          · rintro w' ⟨s0, s1, s2, s3, s4, s5, s6, s7, s8⟩
            go_simp
            with_reducible rfl
          rotate_left
          · simp only [Act.put, nrA, nrB, nrC, i64_w, i32_w]
            rfl
          refine take_ (i := 10) (N := some 99) (v := ?_) (a' := ?_) (lb 22 11903) rfl rfl (by kernel_rfl) (fun _ _ _ h => h) (Or.inl ⟨by rfl, ?_⟩) hHeld ?_ ?_
          rotate_left
          · rintro w' ⟨s0, s1, s2, s3, s4, s5, s6, s7, s8⟩
            go_simp
            with_reducible rfl
          rotate_left
          · simp only [Act.put, nrA, nrB, nrC, i64_w, i32_w]
            rfl
          refine take_ (i := 12) (N := some 101) (v := ?_) (a' := ?_) (lb 22 15999) rfl rfl (by kernel_rfl) (fun _ _ _ h => h) (Or.inl ⟨by rfl, ?_⟩) hHeld ?_ ?_
          rotate_left
          · rintro w' ⟨s0, s1, s2, s3, s4, s5, s6, s7, s8⟩
            go_simp
            with_reducible rfl
          rotate_left
          · simp only [Act.put, nrA, nrB, nrC, i64_w, i32_w]
            rfl
          refine pure_ (i := 14) (N := some 103) (v := ?_) (a' := ?_) (lb 22 32383) rfl rfl (by kernel_rfl) (fun _ _ _ h => h) (Or.inl ⟨by rfl, ?_⟩) ?_ ?_
          rotate_left
          · intro w'
            go_simp
            with_reducible rfl
          rotate_left
          · simp only [Act.put, nrA, nrB, nrC, i64_w, i32_w]
            rfl
          refine take_ (i := 15) (N := some 104) (v := ?_) (a' := ?_) (lb 22 65151) rfl rfl (by kernel_rfl) (fun _ _ _ h => h) (Or.inl ⟨by rfl, ?_⟩) hHeld ?_ ?_
          rotate_left
          · rintro w' ⟨s0, s1, s2, s3, s4, s5, s6, s7, s8⟩
            go_simp
            with_reducible rfl
          rotate_left
          · simp only [Act.put, nrA, nrB, nrC, i64_w, i32_w]
            rfl
          refine join_ (σ := Value × Value × Value) 4 (lb 22 393215) (fun s_ => [(96, s_.1), (97, s_.2.1), (105, s_.2.2), (107, .pointer (some ⟨w.heap.size + 1 + 1 + 1, 2, none⟩))]) (fun s_ w' => ((∃ q r, s_.1 = .slice (some ⟨q, 0, none⟩) 1 r) ∧ (∃ q n r, s_.2.1 = .slice (some ⟨q, 0, none⟩) n r) ∧ (∃ q r, s_.2.2 = .slice (some ⟨q, 0, none⟩) 1 r)) ∧ OvF w (w.heap.size + 4) v.keys[i] [.int .i64 kd1, .string tx1, .slice ak1 nk1 ck1, .slice a11 n11 c11] s_.2.1 ((out.map fun p => [Value.string p.1]) ++ [[.string v.keys[i]]]) vv vcs none (some s_.2.2) W w') ?_ ?_
          rotate_left
          · intro hJ7_8_16
            refine join_ (σ := Value × Value) 5 (lb 22 327679) (fun s_ => [(96, s_.1), (97, s_.2), (107, .pointer (some ⟨w.heap.size + 1 + 1 + 1, 2, none⟩))]) (fun s_ w' => ((∃ q r, s_.1 = .slice (some ⟨q, 0, none⟩) 1 r) ∧ (∃ q n r, s_.2 = .slice (some ⟨q, 0, none⟩) n r)) ∧ OvF w (w.heap.size + 4) v.keys[i] [.int .i64 kd1, .string tx1, .slice ak1 nk1 ck1, .slice a11 n11 c11] s_.2 ((out.map fun p => [Value.string p.1]) ++ [[.string v.keys[i]]]) vv vcs none none W w') ?_ ?_
            rotate_left
            · intro hJ7_8
              refine join_ (σ := Value × Value) 6 (lb 22 130815) (fun s_ => [(96, s_.1), (105, s_.2)]) (fun s_ w' => ((∃ q r, s_.1 = .slice (some ⟨q, 0, none⟩) 1 r) ∧ (∃ q r, s_.2 = .slice (some ⟨q, 0, none⟩) 1 r)) ∧ OvF w (w.heap.size + 4) v.keys[i] [.int .i64 kd1, .string tx1, .slice ak1 nk1 ck1, .slice a11 n11 c11] vk (out.map fun p => [Value.string p.1]) vv vcs (some s_.1) (some s_.2) W w') ?_ ?_
              rotate_left
              · intro hJ7_16
                refine join_ (σ := Value) 7 (lb 22 65279) (fun s_ => [(96, s_)]) (fun s_ w' => ((∃ q r, s_ = .slice (some ⟨q, 0, none⟩) 1 r)) ∧ OvF w (w.heap.size + 4) v.keys[i] [.int .i64 kd1, .string tx1, .slice ak1 nk1 ck1, .slice a11 n11 c11] vk (out.map fun p => [Value.string p.1]) vv vcs (some s_) none W w') ?_ ?_
                rotate_left
                · intro hJ7
                  refine join_ (σ := Value) 7 (lb 22 130687) (fun s_ => [(105, s_)]) (fun s_ w' => ((∃ q r, s_ = .slice (some ⟨q, 0, none⟩) 1 r)) ∧ OvF w (w.heap.size + 4) v.keys[i] [.int .i64 kd1, .string tx1, .slice ak1 nk1 ck1, .slice a11 n11 c11] vk (out.map fun p => [Value.string p.1]) vv vcs none (some s_) W w') ?_ ?_
                  rotate_left
                  · intro hJ16
                    refine two_ (i := 7) (j := 16) (Ni := some 96) (Nj := some 105) (lb 22 65279) (lb 22 130687) rfl rfl rfl rfl (by kernel_rfl) (by decide) (by decide) (fun K hK => ?_) (fun K hK => ?_)
                    · skip
                      refine value_ (w1 := ?_) (v := ?_) (by rfl) rfl ?_ ?_
                      rotate_left 2
                      · go_simp
                        constructor
                        · rfl
                        · rfl
                      have hN := OvF.k7 hF_st.out
                      refine hK.out _ _ ⟨cell_blk (hN.low _ _ (by omega) HBW.out) 2 rfl, cell_blk (hN.low _ _ (by omega) HBW.out) 3 rfl, cell_blk (hN.low _ _ (by omega) HXW.out) 2 rfl, cell_blk (hN.low _ _ (by omega) HXW.out) 3 rfl, hN.cell HM.out Q1.out, hN.cell HM.out E10.out, hN.cell HM.out E11.out, hN.cell HM.out E12.out, hN.cell HM.out E13.out⟩ (fun hHeld => ?_)
                      clear hK K
                      refine norm_ (a' := ?_) ?_ ?_
                      rotate_left
                      · show Act.put _ (some 96) _ = _
                        simp only [Act.put, nrA, nrB, nrC, i64_w, i32_w]
                        rfl
                      exact norm_ (by first | (simp only [putAll, Act.put, nrA, nrB, nrC]; done) | (simp only [putAll, Act.put, nrA, nrB, nrC]; rfl)) (hJ7 _ _ ⟨⟨_, _, rfl⟩, hN⟩)
                    · skip
                      refine value_ (w1 := ?_) (v := ?_) (by rfl) rfl ?_ ?_
                      rotate_left 2
                      · go_simp
                        constructor
                        · rfl
                        · rfl
                      have hN := OvF.k16 hF_st.out
                      refine hK.out _ _ ⟨cell_blk (hN.low _ _ (by omega) HBW.out) 2 rfl, cell_blk (hN.low _ _ (by omega) HBW.out) 3 rfl, cell_blk (hN.low _ _ (by omega) HXW.out) 2 rfl, cell_blk (hN.low _ _ (by omega) HXW.out) 3 rfl, hN.cell HM.out Q1.out, hN.cell HM.out E10.out, hN.cell HM.out E11.out, hN.cell HM.out E12.out, hN.cell HM.out E13.out⟩ (fun hHeld => ?_)
                      clear hK K
                      refine norm_ (a' := ?_) ?_ ?_
                      rotate_left
                      · show Act.put _ (some 105) _ = _
                        simp only [Act.put, nrA, nrB, nrC, i64_w, i32_w]
                        rfl
                      exact norm_ (by first | (simp only [putAll, Act.put, nrA, nrB, nrC]; done) | (simp only [putAll, Act.put, nrA, nrB, nrC]; rfl)) (hJ16 _ _ ⟨⟨_, _, rfl⟩, hN⟩)
                  · skip
                    rintro a16 wn ⟨hsh, hF_16⟩
                    obtain ⟨q16, r16, rfl⟩ := hsh
                    have hHeld := And.intro (cell_blk (hF_16.low _ _ (by omega) HBW.out) 2 rfl) (And.intro (cell_blk (hF_16.low _ _ (by omega) HBW.out) 3 rfl) (And.intro (cell_blk (hF_16.low _ _ (by omega) HXW.out) 2 rfl) (And.intro (cell_blk (hF_16.low _ _ (by omega) HXW.out) 3 rfl) (And.intro (hF_16.cell HM.out Q1.out) (And.intro (hF_16.cell HM.out E10.out) (And.intro (hF_16.cell HM.out E11.out) (And.intro (hF_16.cell HM.out E12.out) (hF_16.cell HM.out E13.out))))))))
                    refine norm_ (a' := ?_) ?_ ?_
                    rotate_left
                    · simp only [putAll, Act.put, nrA, nrB, nrC]
                      rfl
                    refine one_ (i := 7) (N := some 96) (lb 22 130815) rfl rfl (by kernel_rfl) (by decide) (fun K hK => ?_)
                    refine value_ (w1 := ?_) (v := ?_) (by rfl) rfl ?_ ?_
                    rotate_left 2
                    · go_simp
                      constructor
                      · rfl
                      · rfl
                    have hN := OvF.k7 hF_16
                    refine hK.out _ _ ⟨cell_blk (hN.low _ _ (by omega) HBW.out) 2 rfl, cell_blk (hN.low _ _ (by omega) HBW.out) 3 rfl, cell_blk (hN.low _ _ (by omega) HXW.out) 2 rfl, cell_blk (hN.low _ _ (by omega) HXW.out) 3 rfl, hN.cell HM.out Q1.out, hN.cell HM.out E10.out, hN.cell HM.out E11.out, hN.cell HM.out E12.out, hN.cell HM.out E13.out⟩ (fun hHeld => ?_)
                    clear hK K
                    refine norm_ (a' := ?_) ?_ ?_
                    rotate_left
                    · show Act.put _ (some 96) _ = _
                      simp only [Act.put, nrA, nrB, nrC, i64_w, i32_w]
                      rfl
                    exact norm_ (by first | (simp only [putAll, Act.put, nrA, nrB, nrC]; done) | (simp only [putAll, Act.put, nrA, nrB, nrC]; rfl)) (hJ7_16 (_, .slice (some ⟨q16, 0, none⟩) 1 r16) _ ⟨⟨⟨_, _, rfl⟩, ⟨_, _, rfl⟩⟩, hN⟩)
                · skip
                  rintro a7 wn ⟨hsh, hF_7⟩
                  obtain ⟨q7, r7, rfl⟩ := hsh
                  have hHeld := And.intro (cell_blk (hF_7.low _ _ (by omega) HBW.out) 2 rfl) (And.intro (cell_blk (hF_7.low _ _ (by omega) HBW.out) 3 rfl) (And.intro (cell_blk (hF_7.low _ _ (by omega) HXW.out) 2 rfl) (And.intro (cell_blk (hF_7.low _ _ (by omega) HXW.out) 3 rfl) (And.intro (hF_7.cell HM.out Q1.out) (And.intro (hF_7.cell HM.out E10.out) (And.intro (hF_7.cell HM.out E11.out) (And.intro (hF_7.cell HM.out E12.out) (hF_7.cell HM.out E13.out))))))))
                  refine norm_ (a' := ?_) ?_ ?_
                  rotate_left
                  · simp only [putAll, Act.put, nrA, nrB, nrC]
                    rfl
                  refine two_ (i := 8) (j := 16) (Ni := some 97) (Nj := some 105) (lb 22 65535) (lb 22 130815) rfl rfl rfl rfl (by kernel_rfl) (by decide) (by decide) (fun K hK => ?_) (fun K hK => ?_)
                  · skip
                    refine step_snoc em_EC rfl _ _ _ rfl rfl _ _ rfl (OvF.snocK hF_7 HL.out.1 HL.out.2.1) ?_
                    intro g cap w2 hown2 hg2 hv2 hgg2
                    have hN := OvF.k8 hF_7 hown2 hg2 hgg2
                    refine hK.out _ _ ⟨cell_blk (hN.low _ _ (by omega) HBW.out) 2 rfl, cell_blk (hN.low _ _ (by omega) HBW.out) 3 rfl, cell_blk (hN.low _ _ (by omega) HXW.out) 2 rfl, cell_blk (hN.low _ _ (by omega) HXW.out) 3 rfl, hN.cell HM.out Q1.out, hN.cell HM.out E10.out, hN.cell HM.out E11.out, hN.cell HM.out E12.out, hN.cell HM.out E13.out⟩ (fun hHeld => ?_)
                    clear hK K
                    refine norm_ (a' := ?_) ?_ ?_
                    rotate_left
                    · show Act.put _ (some 97) _ = _
                      simp only [Act.put, nrA, nrB, nrC, i64_w, i32_w]
                      rfl
                    refine pure_ (i := 18) (N := some 107) (v := ?_) (a' := ?_) (lb 22 327679) rfl rfl (by kernel_rfl) (fun _ _ _ h => h) (Or.inl ⟨by rfl, ?_⟩) ?_ ?_
                    rotate_left
                    · intro w'
                      go_simp
                      with_reducible rfl
                    rotate_left
                    · simp only [Act.put, nrA, nrB, nrC, i64_w, i32_w]
                      rfl
                    exact norm_ (by first | (simp only [putAll, Act.put, nrA, nrB, nrC]; done) | (simp only [putAll, Act.put, nrA, nrB, nrC]; rfl)) (hJ7_8 (.slice (some ⟨q7, 0, none⟩) 1 r7, _) _ ⟨⟨⟨_, _, rfl⟩, ⟨_, _, _, rfl⟩⟩, hN⟩)
                  · skip
                    refine value_ (w1 := ?_) (v := ?_) (by rfl) rfl ?_ ?_
                    rotate_left 2
                    · go_simp
                      constructor
                      · rfl
                      · rfl
                    have hN := OvF.k16 hF_7
                    refine hK.out _ _ ⟨cell_blk (hN.low _ _ (by omega) HBW.out) 2 rfl, cell_blk (hN.low _ _ (by omega) HBW.out) 3 rfl, cell_blk (hN.low _ _ (by omega) HXW.out) 2 rfl, cell_blk (hN.low _ _ (by omega) HXW.out) 3 rfl, hN.cell HM.out Q1.out, hN.cell HM.out E10.out, hN.cell HM.out E11.out, hN.cell HM.out E12.out, hN.cell HM.out E13.out⟩ (fun hHeld => ?_)
                    clear hK K
                    refine norm_ (a' := ?_) ?_ ?_
                    rotate_left
                    · show Act.put _ (some 105) _ = _
                      simp only [Act.put, nrA, nrB, nrC, i64_w, i32_w]
                      rfl
                    exact norm_ (by first | (simp only [putAll, Act.put, nrA, nrB, nrC]; done) | (simp only [putAll, Act.put, nrA, nrB, nrC]; rfl)) (hJ7_16 (.slice (some ⟨q7, 0, none⟩) 1 r7, _) _ ⟨⟨⟨_, _, rfl⟩, ⟨_, _, rfl⟩⟩, hN⟩)
              · skip
                rintro ⟨a7, a16⟩ wn ⟨hsh, hF_7_16⟩
                obtain ⟨⟨q7, r7, rfl⟩, ⟨q16, r16, rfl⟩⟩ := hsh
                have hHeld := And.intro (cell_blk (hF_7_16.low _ _ (by omega) HBW.out) 2 rfl) (And.intro (cell_blk (hF_7_16.low _ _ (by omega) HBW.out) 3 rfl) (And.intro (cell_blk (hF_7_16.low _ _ (by omega) HXW.out) 2 rfl) (And.intro (cell_blk (hF_7_16.low _ _ (by omega) HXW.out) 3 rfl) (And.intro (hF_7_16.cell HM.out Q1.out) (And.intro (hF_7_16.cell HM.out E10.out) (And.intro (hF_7_16.cell HM.out E11.out) (And.intro (hF_7_16.cell HM.out E12.out) (hF_7_16.cell HM.out E13.out))))))))
                refine norm_ (a' := ?_) ?_ ?_
                rotate_left
                · simp only [putAll, Act.put, nrA, nrB, nrC]
                  rfl
                refine one_ (i := 8) (N := some 97) (lb 22 131071) rfl rfl (by kernel_rfl) (by decide) (fun K hK => ?_)
                refine step_snoc em_EC rfl _ _ _ rfl rfl _ _ rfl (OvF.snocK hF_7_16 HL.out.1 HL.out.2.1) ?_
                intro g cap w2 hown2 hg2 hv2 hgg2
                have hN := OvF.k8 hF_7_16 hown2 hg2 hgg2
                refine hK.out _ _ ⟨cell_blk (hN.low _ _ (by omega) HBW.out) 2 rfl, cell_blk (hN.low _ _ (by omega) HBW.out) 3 rfl, cell_blk (hN.low _ _ (by omega) HXW.out) 2 rfl, cell_blk (hN.low _ _ (by omega) HXW.out) 3 rfl, hN.cell HM.out Q1.out, hN.cell HM.out E10.out, hN.cell HM.out E11.out, hN.cell HM.out E12.out, hN.cell HM.out E13.out⟩ (fun hHeld => ?_)
                clear hK K
                refine norm_ (a' := ?_) ?_ ?_
                rotate_left
                · show Act.put _ (some 97) _ = _
                  simp only [Act.put, nrA, nrB, nrC, i64_w, i32_w]
                  rfl
                refine pure_ (i := 18) (N := some 107) (v := ?_) (a' := ?_) (lb 22 393215) rfl rfl (by kernel_rfl) (fun _ _ _ h => h) (Or.inl ⟨by rfl, ?_⟩) ?_ ?_
                rotate_left
                · intro w'
                  go_simp
                  with_reducible rfl
                rotate_left
                · simp only [Act.put, nrA, nrB, nrC, i64_w, i32_w]
                  rfl
                exact norm_ (by first | (simp only [putAll, Act.put, nrA, nrB, nrC]; done) | (simp only [putAll, Act.put, nrA, nrB, nrC]; rfl)) (hJ7_8_16 (.slice (some ⟨q7, 0, none⟩) 1 r7, _, .slice (some ⟨q16, 0, none⟩) 1 r16) _ ⟨⟨⟨_, _, rfl⟩, ⟨_, _, _, rfl⟩, ⟨_, _, rfl⟩⟩, hN⟩)
            · skip
              rintro ⟨a7, a8⟩ wn ⟨hsh, hF_7_8⟩
              obtain ⟨⟨q7, r7, rfl⟩, ⟨q8, n8, r8, rfl⟩⟩ := hsh
              have hHeld := And.intro (cell_blk (hF_7_8.low _ _ (by omega) HBW.out) 2 rfl) (And.intro (cell_blk (hF_7_8.low _ _ (by omega) HBW.out) 3 rfl) (And.intro (cell_blk (hF_7_8.low _ _ (by omega) HXW.out) 2 rfl) (And.intro (cell_blk (hF_7_8.low _ _ (by omega) HXW.out) 3 rfl) (And.intro (hF_7_8.cell HM.out Q1.out) (And.intro (hF_7_8.cell HM.out E10.out) (And.intro (hF_7_8.cell HM.out E11.out) (And.intro (hF_7_8.cell HM.out E12.out) (hF_7_8.cell HM.out E13.out))))))))
              refine norm_ (a' := ?_) ?_ ?_
              rotate_left
              · simp only [putAll, Act.put, nrA, nrB, nrC]
                rfl
              refine one_ (i := 16) (N := some 105) (lb 22 393215) rfl rfl (by kernel_rfl) (by decide) (fun K hK => ?_)
              refine value_ (w1 := ?_) (v := ?_) (by rfl) rfl ?_ ?_
              rotate_left 2
              · go_simp
                constructor
                · rfl
                · rfl
              have hN := OvF.k16 hF_7_8
              refine hK.out _ _ ⟨cell_blk (hN.low _ _ (by omega) HBW.out) 2 rfl, cell_blk (hN.low _ _ (by omega) HBW.out) 3 rfl, cell_blk (hN.low _ _ (by omega) HXW.out) 2 rfl, cell_blk (hN.low _ _ (by omega) HXW.out) 3 rfl, hN.cell HM.out Q1.out, hN.cell HM.out E10.out, hN.cell HM.out E11.out, hN.cell HM.out E12.out, hN.cell HM.out E13.out⟩ (fun hHeld => ?_)
              clear hK K
              refine norm_ (a' := ?_) ?_ ?_
              rotate_left
              · show Act.put _ (some 105) _ = _
                simp only [Act.put, nrA, nrB, nrC, i64_w, i32_w]
                rfl
              exact norm_ (by first | (simp only [putAll, Act.put, nrA, nrB, nrC]; done) | (simp only [putAll, Act.put, nrA, nrB, nrC]; rfl)) (hJ7_8_16 (.slice (some ⟨q7, 0, none⟩) 1 r7, .slice (some ⟨q8, 0, none⟩) n8 r8, _) _ ⟨⟨⟨_, _, rfl⟩, ⟨_, _, _, rfl⟩, ⟨_, _, rfl⟩⟩, hN⟩)
          rintro ⟨a7, a8, a16⟩ wn ⟨hsh, hF_7_8_16⟩
          obtain ⟨⟨q7, r7, rfl⟩, ⟨q8, n8, r8, rfl⟩, ⟨q16, r16, rfl⟩⟩ := hsh
          have hHeld := And.intro (cell_blk (hF_7_8_16.low _ _ (by omega) HBW.out) 2 rfl) (And.intro (cell_blk (hF_7_8_16.low _ _ (by omega) HBW.out) 3 rfl) (And.intro (cell_blk (hF_7_8_16.low _ _ (by omega) HXW.out) 2 rfl) (And.intro (cell_blk (hF_7_8_16.low _ _ (by omega) HXW.out) 3 rfl) (And.intro (hF_7_8_16.cell HM.out Q1.out) (And.intro (hF_7_8_16.cell HM.out E10.out) (And.intro (hF_7_8_16.cell HM.out E11.out) (And.intro (hF_7_8_16.cell HM.out E12.out) (hF_7_8_16.cell HM.out E13.out))))))))
          refine norm_ (a' := ?_) ?_ ?_
          rotate_left
          · simp only [putAll, Act.put, nrA, nrB, nrC]
            rfl
          refine one_ (i := 17) (N := some 106) (lb 22 524287) rfl rfl (by kernel_rfl) (by decide) (fun K hK => ?_)
          refine step_snoc em_EC rfl _ _ _ rfl rfl _ _ rfl (OvF.snocV hF_7_8_16 rfl (by simp [Value.oneCell']) HL.out.2.2.1 HL.out.2.2.2) ?_
          intro g17 c17 w17 hown17 hg17 hv17 hgg17
          have hFE := OvF.k17 hF_7_8_16 hown17 hg17 hgg17
          refine hK.out _ _ ⟨cell_blk (hFE.low _ _ (by omega) HBW.out) 2 rfl, cell_blk (hFE.low _ _ (by omega) HBW.out) 3 rfl, cell_blk (hFE.low _ _ (by omega) HXW.out) 2 rfl, cell_blk (hFE.low _ _ (by omega) HXW.out) 3 rfl, hFE.cell HM.out Q1.out, hFE.cell HM.out E10.out, hFE.cell HM.out E11.out, hFE.cell HM.out E12.out, hFE.cell HM.out E13.out⟩ (fun hHeld => ?_)
          clear hK K
          refine norm_ (a' := ?_) ?_ ?_
          rotate_left
          · show Act.put _ (some 106) _ = _
            simp only [Act.put, nrA, nrB, nrC, i64_w, i32_w]
            rfl
          refine last_ (i := 19) (N := none) (lb 22 1048575) rfl rfl (by kernel_rfl) (by decide) (fun K hK => ?_)
          have hB5 := hFE.low _ _ (by omega) HBW.out
          have c3 := cell_blk hB5 2 rfl
          have f3 := froz_blk hB5 2
          refine skip_ (w1 := ?_) (by rfl) rfl ?_ ?_
          rotate_left
          · go_simp
            rfl
          refine hK.out _ _ ?_
          clear hK K
          refine pure_ (i := 20) (N := some 108) (v := ?_) (a' := ?_) (lb 22 2097151) rfl rfl (by kernel_rfl) (fun _ _ _ h => h) (Or.inl ⟨by rfl, ?_⟩) ?_ ?_
          rotate_left
          · intro w'
            go_simp
            with_reducible rfl
          rotate_left
          · simp only [Act.put, nrA, nrB, nrC, i64_w, i32_w]
            rfl
          refine last_ (i := 21) (N := none) (lb 22 4194303) rfl rfl (by kernel_rfl) (by decide) (fun K hK => ?_)
          have hB6 := set_blk hB5 2 (.slice (some ⟨q8, 0, none⟩) n8 r8)
          have c4 := cell_blk hB6 3 rfl
          have f4 := froz_blk hB5 3
          refine skip_ (w1 := ?_) (by rfl) rfl ?_ ?_
          rotate_left
          · go_simp
            rfl
          refine hK.out _ _ ?_
          clear hK K
          refine done_ (by kernel_rfl) ?_
          clear c3 f3 c4 f4
          go_wp2
          go_roundw
          case rel => exact ⟨i + 1, j, out ++ [(v.keys[i], v.kids[i])], vcs ++ [_], _, _, by omega, by omega, by go_num, by go_num, ovF_end HW.out HC1.out hFE, ovI_v hI.out.2 HPV.out HPU.out H6.out H6'.out hi hik (fun _ => HLS.out)⟩
          case measure => simp [intOf]; omega
        · have hls2 : Op.bytesLess v.keys[i].toList u.keys[j].toList = false := by rw [heq]; exact Bool.eq_false_iff.2 less_irrefl
          have heq2 : (v.keys[i].toList == u.keys[j].toList) = true := by rw [heq]; simp
          have HLS := Lib.hid heq
          clear heq
          go_wp2_with fail
          have A0 := fun n os => (gr_grow wr n os).cell x2
          have A1 := fun n os => (gr_grow wr n os).cell y2
          have A2 := fun n os => (gr_grow wr n os).cell (HMR.out _ _ Q1.out)
          have A3 := fun n os => (gr_grow wr n os).cell (HMR.out _ _ Q2.out)
          refine wp_region_quiet_grown hmix (by kernel_rfl) ?_
          repeat (go_big_quiet_step (fail))
          refine wpQuiet_nil ?_
          intro _ hw'
          obtain ⟨⟨nq, osq⟩, hw''⟩ := hw'
          subst hw''
          have HW := Lib.hid (OvM.bl hI.out.1 (gr_grow wr nq osq).below)
          have HMW := Lib.hid ((HMR.out).trans (mle_below (gr_grow wr nq osq).below))
          clear A0 A1 A2 A3
          generalize grow (wr.drewN nq) osq = W at HW HMW ⊢
          have HXW := Lib.hid HW.out.2.1
          have HYW := Lib.hid HW.out.2.2.1
          have HBW := Lib.hid HW.out.2.2.2.2.1
          clear x0 x1 x2 x3 y0 y1 y2 y3 hls2 hje
          go_wp2_with fail
          have A0 := fun n os => (gr_grow W n os).cell (cell_blk HXW.out 2 rfl)
          have A1 := fun n os => (gr_grow W n os).cell (cell_blk HYW.out 2 rfl)
          have A2 := fun n os => (gr_grow W n os).cell (HMW.out _ _ Q1.out)
          have A3 := fun n os => (gr_grow W n os).cell (HMW.out _ _ Q2.out)
          refine wp_region_quiet_grown hmix (by kernel_rfl) ?_
          repeat (go_big_quiet_step (fail))
          refine wpQuiet_nil ?_
          intro _ hw'
          obtain ⟨⟨nq, osq⟩, hw''⟩ := hw'
          subst hw''
          have HU := Lib.hid (OvM.bl HW.out (gr_grow W nq osq).below)
          have HMU := Lib.hid ((HMW.out).trans (mle_below (gr_grow W nq osq).below))
          clear A0 A1 A2 A3
          generalize grow (W.drewN nq) osq = U at HU HMU ⊢
          have HXU := Lib.hid HU.out.2.1
          have HYU := Lib.hid HU.out.2.2.1
          have HBU := Lib.hid HU.out.2.2.2.2.1
          clear heq2
          go_wp2_with fail
          have HL := Lib.hid (show ((out.map fun p => [Value.string p.1]).length + 1) * 16 ≤ 140737488355328 ∧ (out.map fun p => [Value.string p.1]).length + 1 ≤ maxLen ∧ (vcs.length + 1) * 72 ≤ 140737488355328 ∧ vcs.length + 1 ≤ maxLen from by have h1 := HNV.out; have h2 := HNU.out; have h3 := HLV.out; have h4 := HLU.out; have h5 := hI.out.2.len; have h6 := hI.out.1.1; simp [maxLen]; omega)
          have hF_st := Lib.hid (ovF_start HU.out u.keys[j] [.int .i64 kd2, .string tx2, .slice ak2 nk2 ck2, .slice a12 n12 c12])
          refine start_ (n := 22) (S := fun w' => w'.cell? ⟨w.heap.size + 1 + 1 + 1, 2, none⟩ = some vk ∧ w'.cell? ⟨w.heap.size + 1 + 1 + 1, 3, none⟩ = some vv ∧ w'.cell? ⟨w.heap.size + 1, 2, none⟩ = some (.slice (some ⟨lq_, loff, none⟩) u.keys.length cku) ∧ w'.cell? ⟨w.heap.size + 1, 3, none⟩ = some (.slice (some ⟨yb, yoff, none⟩) u.kids.length c1u) ∧ w'.cell? ⟨lq_, loff + j, none⟩ = some (.string u.keys[j]) ∧ w'.cell? ⟨yb, yoff + j * 4, none⟩ = some (.int .i64 kd2) ∧ w'.cell? ⟨yb, yoff + j * 4 + 1, none⟩ = some (.string tx2) ∧ w'.cell? ⟨yb, yoff + j * 4 + 2, none⟩ = some (.slice ak2 nk2 ck2) ∧ w'.cell? ⟨yb, yoff + j * 4 + 3, none⟩ = some (.slice a12 n12 c12)) (ds := [19, 21]) (lb 22 0) (by kernel_rfl) rfl rfl ⟨cell_blk (hF_st.out.low _ _ (by omega) HBU.out) 2 rfl, cell_blk (hF_st.out.low _ _ (by omega) HBU.out) 3 rfl, cell_blk (hF_st.out.low _ _ (by omega) HYU.out) 2 rfl, cell_blk (hF_st.out.low _ _ (by omega) HYU.out) 3 rfl, hF_st.out.cell HM.out Q2.out, hF_st.out.cell HM.out E20.out, hF_st.out.cell HM.out E21.out, hF_st.out.cell HM.out E22.out, hF_st.out.cell HM.out E23.out⟩ (fun hHeld => ?_)
          refine pure_ (i := 0) (N := some 41) (v := ?_) (a' := ?_) (lb 22 1) rfl rfl (by kernel_rfl) (fun _ _ _ h => h) (Or.inl ⟨by rfl, ?_⟩) ?_ ?_
          rotate_left
          · intro w'
            go_simp
            with_reducible rfl
          rotate_left
          · simp only [Act.put, nrA, nrB, nrC, i64_w, i32_w]
            rfl
          refine pure_ (i := 2) (N := some 43) (v := ?_) (a' := ?_) (lb 22 5) rfl rfl (by kernel_rfl) (fun _ _ _ h => h) (Or.inl ⟨by rfl, ?_⟩) ?_ ?_
          rotate_left
          · intro w'
            go_simp
            with_reducible rfl
          rotate_left
          · simp only [Act.put, nrA, nrB, nrC, i64_w, i32_w]
            rfl
          refine pure_ (i := 4) (N := some 45) (v := ?_) (a' := ?_) (lb 22 21) rfl rfl (by kernel_rfl) (fun _ _ _ h => h) (Or.inl ⟨by rfl, ?_⟩) ?_ ?_
          rotate_left
          · intro w'
            go_simp
            with_reducible rfl
          rotate_left
          · simp only [Act.put, nrA, nrB, nrC, i64_w, i32_w]
            rfl
          refine pure_ (i := 9) (N := some 50) (v := ?_) (a' := ?_) (lb 22 533) rfl rfl (by kernel_rfl) (fun _ _ _ h => h) (Or.inl ⟨by rfl, ?_⟩) ?_ ?_
          rotate_left
          · intro w'
            go_simp
            with_reducible rfl
          rotate_left
          · simp only [Act.put, nrA, nrB, nrC, i64_w, i32_w]
            rfl
          refine pure_ (i := 11) (N := some 52) (v := ?_) (a' := ?_) (lb 22 2581) rfl rfl (by kernel_rfl) (fun _ _ _ h => h) (Or.inl ⟨by rfl, ?_⟩) ?_ ?_
          rotate_left
          · intro w'
            go_simp
            with_reducible rfl
          rotate_left
          · simp only [Act.put, nrA, nrB, nrC, i64_w, i32_w]
            rfl
          refine pure_ (i := 13) (N := some 54) (v := ?_) (a' := ?_) (lb 22 10773) rfl rfl (by kernel_rfl) (fun _ _ _ h => h) (Or.inl ⟨by rfl, ?_⟩) ?_ ?_
          rotate_left
          · intro w'
            go_simp
            with_reducible rfl
          rotate_left
          · simp only [Act.put, nrA, nrB, nrC, i64_w, i32_w]
            rfl
          refine take_ (i := 1) (N := some 42) (v := ?_) (a' := ?_) (lb 22 10775) rfl rfl (by kernel_rfl) (fun _ _ _ h => h) (Or.inl ⟨by rfl, ?_⟩) hHeld ?_ ?_
          rotate_left
          · rintro w' ⟨s0, s1, s2, s3, s4, s5, s6, s7, s8⟩
            go_simp
            with_reducible rfl
          rotate_left
          · simp only [Act.put, nrA, nrB, nrC, i64_w, i32_w]
            rfl
          refine take_ (i := 3) (N := some 44) (v := ?_) (a' := ?_) (lb 22 10783) rfl rfl (by kernel_rfl) (fun _ _ _ h => h) (Or.inl ⟨by rfl, ?_⟩) hHeld ?_ ?_
          rotate_left
          · rintro w' ⟨s0, s1, s2, s3, s4, s5, s6, s7, s8⟩
            go_simp
            with_reducible rfl
          rotate_left
          · simp only [Act.put, nrA, nrB, nrC, i64_w, i32_w]
            rfl
          refine pure_ (i := 5) (N := some 46) (v := ?_) (a' := ?_) (lb 22 10815) rfl rfl (by kernel_rfl) (fun _ _ _ h => h) (Or.inl ⟨by rfl, ?_⟩) ?_ ?_
          rotate_left
          · intro w'
            go_simp
            with_reducible rfl
          rotate_left
          · simp only [Act.put, nrA, nrB, nrC, i64_w, i32_w]
            rfl
          refine take_ (i := 6) (N := some 47) (v := ?_) (a' := ?_) (lb 22 10879) rfl rfl (by kernel_rfl) (fun _ _ _ h => h) (Or.inl ⟨by rfl, ?_⟩) hHeld ?_ ?_
          rotate_left
          · rintro w' ⟨s0, s1, s2, s3, s4, s5, s6, s7, s8⟩
            go_simp
            with_reducible rfl
          rotate_left
          · simp only [Act.put, nrA, nrB, nrC, i64_w, i32_w]
            rfl
          refine take_ (i := 10) (N := some 51) (v := ?_) (a' := ?_) (lb 22 11903) rfl rfl (by kernel_rfl) (fun _ _ _ h => h) (Or.inl ⟨by rfl, ?_⟩) hHeld ?_ ?_
          rotate_left
          · rintro w' ⟨s0, s1, s2, s3, s4, s5, s6, s7, s8⟩
            go_simp
            with_reducible rfl
          rotate_left
          · simp only [Act.put, nrA, nrB, nrC, i64_w, i32_w]
            rfl
          refine take_ (i := 12) (N := some 53) (v := ?_) (a' := ?_) (lb 22 15999) rfl rfl (by kernel_rfl) (fun _ _ _ h => h) (Or.inl ⟨by rfl, ?_⟩) hHeld ?_ ?_
          rotate_left
          · rintro w' ⟨s0, s1, s2, s3, s4, s5, s6, s7, s8⟩
            go_simp
            with_reducible rfl
          rotate_left
          · simp only [Act.put, nrA, nrB, nrC, i64_w, i32_w]
            rfl
          refine pure_ (i := 14) (N := some 55) (v := ?_) (a' := ?_) (lb 22 32383) rfl rfl (by kernel_rfl) (fun _ _ _ h => h) (Or.inl ⟨by rfl, ?_⟩) ?_ ?_
          rotate_left
          · intro w'
            go_simp
            with_reducible rfl
          rotate_left
          · simp only [Act.put, nrA, nrB, nrC, i64_w, i32_w]
            rfl
          refine take_ (i := 15) (N := some 56) (v := ?_) (a' := ?_) (lb 22 65151) rfl rfl (by kernel_rfl) (fun _ _ _ h => h) (Or.inl ⟨by rfl, ?_⟩) hHeld ?_ ?_
          rotate_left
          · rintro w' ⟨s0, s1, s2, s3, s4, s5, s6, s7, s8⟩
            go_simp
            with_reducible rfl
          rotate_left
          · simp only [Act.put, nrA, nrB, nrC, i64_w, i32_w]
            rfl
          refine join_ (σ := Value × Value × Value) 4 (lb 22 393215) (fun s_ => [(48, s_.1), (49, s_.2.1), (57, s_.2.2), (59, .pointer (some ⟨w.heap.size + 1 + 1 + 1, 2, none⟩))]) (fun s_ w' => ((∃ q r, s_.1 = .slice (some ⟨q, 0, none⟩) 1 r) ∧ (∃ q n r, s_.2.1 = .slice (some ⟨q, 0, none⟩) n r) ∧ (∃ q r, s_.2.2 = .slice (some ⟨q, 0, none⟩) 1 r)) ∧ OvF w (w.heap.size + 4) u.keys[j] [.int .i64 kd2, .string tx2, .slice ak2 nk2 ck2, .slice a12 n12 c12] s_.2.1 ((out.map fun p => [Value.string p.1]) ++ [[.string u.keys[j]]]) vv vcs none (some s_.2.2) U w') ?_ ?_
          rotate_left
          · intro hJ7_8_16
            refine join_ (σ := Value × Value) 5 (lb 22 327679) (fun s_ => [(48, s_.1), (49, s_.2), (59, .pointer (some ⟨w.heap.size + 1 + 1 + 1, 2, none⟩))]) (fun s_ w' => ((∃ q r, s_.1 = .slice (some ⟨q, 0, none⟩) 1 r) ∧ (∃ q n r, s_.2 = .slice (some ⟨q, 0, none⟩) n r)) ∧ OvF w (w.heap.size + 4) u.keys[j] [.int .i64 kd2, .string tx2, .slice ak2 nk2 ck2, .slice a12 n12 c12] s_.2 ((out.map fun p => [Value.string p.1]) ++ [[.string u.keys[j]]]) vv vcs none none U w') ?_ ?_
            rotate_left
            · intro hJ7_8
              refine join_ (σ := Value × Value) 6 (lb 22 130815) (fun s_ => [(48, s_.1), (57, s_.2)]) (fun s_ w' => ((∃ q r, s_.1 = .slice (some ⟨q, 0, none⟩) 1 r) ∧ (∃ q r, s_.2 = .slice (some ⟨q, 0, none⟩) 1 r)) ∧ OvF w (w.heap.size + 4) u.keys[j] [.int .i64 kd2, .string tx2, .slice ak2 nk2 ck2, .slice a12 n12 c12] vk (out.map fun p => [Value.string p.1]) vv vcs (some s_.1) (some s_.2) U w') ?_ ?_
              rotate_left
              · intro hJ7_16
                refine join_ (σ := Value) 7 (lb 22 65279) (fun s_ => [(48, s_)]) (fun s_ w' => ((∃ q r, s_ = .slice (some ⟨q, 0, none⟩) 1 r)) ∧ OvF w (w.heap.size + 4) u.keys[j] [.int .i64 kd2, .string tx2, .slice ak2 nk2 ck2, .slice a12 n12 c12] vk (out.map fun p => [Value.string p.1]) vv vcs (some s_) none U w') ?_ ?_
                rotate_left
                · intro hJ7
                  refine join_ (σ := Value) 7 (lb 22 130687) (fun s_ => [(57, s_)]) (fun s_ w' => ((∃ q r, s_ = .slice (some ⟨q, 0, none⟩) 1 r)) ∧ OvF w (w.heap.size + 4) u.keys[j] [.int .i64 kd2, .string tx2, .slice ak2 nk2 ck2, .slice a12 n12 c12] vk (out.map fun p => [Value.string p.1]) vv vcs none (some s_) U w') ?_ ?_
                  rotate_left
                  · intro hJ16
                    refine two_ (i := 7) (j := 16) (Ni := some 48) (Nj := some 57) (lb 22 65279) (lb 22 130687) rfl rfl rfl rfl (by kernel_rfl) (by decide) (by decide) (fun K hK => ?_) (fun K hK => ?_)
                    · skip
                      refine value_ (w1 := ?_) (v := ?_) (by rfl) rfl ?_ ?_
                      rotate_left 2
                      · go_simp
                        constructor
                        · rfl
                        · rfl
                      have hN := OvF.k7 hF_st.out
                      refine hK.out _ _ ⟨cell_blk (hN.low _ _ (by omega) HBU.out) 2 rfl, cell_blk (hN.low _ _ (by omega) HBU.out) 3 rfl, cell_blk (hN.low _ _ (by omega) HYU.out) 2 rfl, cell_blk (hN.low _ _ (by omega) HYU.out) 3 rfl, hN.cell HM.out Q2.out, hN.cell HM.out E20.out, hN.cell HM.out E21.out, hN.cell HM.out E22.out, hN.cell HM.out E23.out⟩ (fun hHeld => ?_)
                      clear hK K
                      refine norm_ (a' := ?_) ?_ ?_
                      rotate_left
                      · show Act.put _ (some 48) _ = _
                        simp only [Act.put, nrA, nrB, nrC, i64_w, i32_w]
                        rfl
                      exact norm_ (by first | (simp only [putAll, Act.put, nrA, nrB, nrC]; done) | (simp only [putAll, Act.put, nrA, nrB, nrC]; rfl)) (hJ7 _ _ ⟨⟨_, _, rfl⟩, hN⟩)
                    · skip
                      refine value_ (w1 := ?_) (v := ?_) (by rfl) rfl ?_ ?_
                      rotate_left 2
                      · go_simp
                        constructor
                        · rfl
                        · rfl
                      have hN := OvF.k16 hF_st.out
                      refine hK.out _ _ ⟨cell_blk (hN.low _ _ (by omega) HBU.out) 2 rfl, cell_blk (hN.low _ _ (by omega) HBU.out) 3 rfl, cell_blk (hN.low _ _ (by omega) HYU.out) 2 rfl, cell_blk (hN.low _ _ (by omega) HYU.out) 3 rfl, hN.cell HM.out Q2.out, hN.cell HM.out E20.out, hN.cell HM.out E21.out, hN.cell HM.out E22.out, hN.cell HM.out E23.out⟩ (fun hHeld => ?_)
                      clear hK K
                      refine norm_ (a' := ?_) ?_ ?_
                      rotate_left
                      · show Act.put _ (some 57) _ = _
                        simp only [Act.put, nrA, nrB, nrC, i64_w, i32_w]
                        rfl
                      exact norm_ (by first | (simp only [putAll, Act.put, nrA, nrB, nrC]; done) | (simp only [putAll, Act.put, nrA, nrB, nrC]; rfl)) (hJ16 _ _ ⟨⟨_, _, rfl⟩, hN⟩)
                  · skip
                    rintro a16 wn ⟨hsh, hF_16⟩
                    obtain ⟨q16, r16, rfl⟩ := hsh
                    have hHeld := And.intro (cell_blk (hF_16.low _ _ (by omega) HBU.out) 2 rfl) (And.intro (cell_blk (hF_16.low _ _ (by omega) HBU.out) 3 rfl) (And.intro (cell_blk (hF_16.low _ _ (by omega) HYU.out) 2 rfl) (And.intro (cell_blk (hF_16.low _ _ (by omega) HYU.out) 3 rfl) (And.intro (hF_16.cell HM.out Q2.out) (And.intro (hF_16.cell HM.out E20.out) (And.intro (hF_16.cell HM.out E21.out) (And.intro (hF_16.cell HM.out E22.out) (hF_16.cell HM.out E23.out))))))))
                    refine norm_ (a' := ?_) ?_ ?_
                    rotate_left
                    · simp only [putAll, Act.put, nrA, nrB, nrC]
                      rfl
                    refine one_ (i := 7) (N := some 48) (lb 22 130815) rfl rfl (by kernel_rfl) (by decide) (fun K hK => ?_)
                    refine value_ (w1 := ?_) (v := ?_) (by rfl) rfl ?_ ?_
                    rotate_left 2
                    · go_simp
                      constructor
                      · rfl
                      · rfl
                    have hN := OvF.k7 hF_16
                    refine hK.out _ _ ⟨cell_blk (hN.low _ _ (by omega) HBU.out) 2 rfl, cell_blk (hN.low _ _ (by omega) HBU.out) 3 rfl, cell_blk (hN.low _ _ (by omega) HYU.out) 2 rfl, cell_blk (hN.low _ _ (by omega) HYU.out) 3 rfl, hN.cell HM.out Q2.out, hN.cell HM.out E20.out, hN.cell HM.out E21.out, hN.cell HM.out E22.out, hN.cell HM.out E23.out⟩ (fun hHeld => ?_)
                    clear hK K
                    refine norm_ (a' := ?_) ?_ ?_
                    rotate_left
                    · show Act.put _ (some 48) _ = _
                      simp only [Act.put, nrA, nrB, nrC, i64_w, i32_w]
                      rfl
                    exact norm_ (by first | (simp only [putAll, Act.put, nrA, nrB, nrC]; done) | (simp only [putAll, Act.put, nrA, nrB, nrC]; rfl)) (hJ7_16 (_, .slice (some ⟨q16, 0, none⟩) 1 r16) _ ⟨⟨⟨_, _, rfl⟩, ⟨_, _, rfl⟩⟩, hN⟩)
                · skip
                  rintro a7 wn ⟨hsh, hF_7⟩
                  obtain ⟨q7, r7, rfl⟩ := hsh
                  have hHeld := And.intro (cell_blk (hF_7.low _ _ (by omega) HBU.out) 2 rfl) (And.intro (cell_blk (hF_7.low _ _ (by omega) HBU.out) 3 rfl) (And.intro (cell_blk (hF_7.low _ _ (by omega) HYU.out) 2 rfl) (And.intro (cell_blk (hF_7.low _ _ (by omega) HYU.out) 3 rfl) (And.intro (hF_7.cell HM.out Q2.out) (And.intro (hF_7.cell HM.out E20.out) (And.intro (hF_7.cell HM.out E21.out) (And.intro (hF_7.cell HM.out E22.out) (hF_7.cell HM.out E23.out))))))))
                  refine norm_ (a' := ?_) ?_ ?_
                  rotate_left
                  · simp only [putAll, Act.put, nrA, nrB, nrC]
                    rfl
                  refine two_ (i := 8) (j := 16) (Ni := some 49) (Nj := some 57) (lb 22 65535) (lb 22 130815) rfl rfl rfl rfl (by kernel_rfl) (by decide) (by decide) (fun K hK => ?_) (fun K hK => ?_)
                  · skip
                    refine step_snoc em_EC rfl _ _ _ rfl rfl _ _ rfl (OvF.snocK hF_7 HL.out.1 HL.out.2.1) ?_
                    intro g cap w2 hown2 hg2 hv2 hgg2
                    have hN := OvF.k8 hF_7 hown2 hg2 hgg2
                    refine hK.out _ _ ⟨cell_blk (hN.low _ _ (by omega) HBU.out) 2 rfl, cell_blk (hN.low _ _ (by omega) HBU.out) 3 rfl, cell_blk (hN.low _ _ (by omega) HYU.out) 2 rfl, cell_blk (hN.low _ _ (by omega) HYU.out) 3 rfl, hN.cell HM.out Q2.out, hN.cell HM.out E20.out, hN.cell HM.out E21.out, hN.cell HM.out E22.out, hN.cell HM.out E23.out⟩ (fun hHeld => ?_)
                    clear hK K
                    refine norm_ (a' := ?_) ?_ ?_
                    rotate_left
                    · show Act.put _ (some 49) _ = _
                      simp only [Act.put, nrA, nrB, nrC, i64_w, i32_w]
                      rfl
                    refine pure_ (i := 18) (N := some 59) (v := ?_) (a' := ?_) (lb 22 327679) rfl rfl (by kernel_rfl) (fun _ _ _ h => h) (Or.inl ⟨by rfl, ?_⟩) ?_ ?_
                    rotate_left
                    · intro w'
                      go_simp
                      with_reducible rfl
                    rotate_left
                    · simp only [Act.put, nrA, nrB, nrC, i64_w, i32_w]
                      rfl
                    exact norm_ (by first | (simp only [putAll, Act.put, nrA, nrB, nrC]; done) | (simp only [putAll, Act.put, nrA, nrB, nrC]; rfl)) (hJ7_8 (.slice (some ⟨q7, 0, none⟩) 1 r7, _) _ ⟨⟨⟨_, _, rfl⟩, ⟨_, _, _, rfl⟩⟩, hN⟩)
                  · skip
                    refine value_ (w1 := ?_) (v := ?_) (by rfl) rfl ?_ ?_
                    rotate_left 2
                    · go_simp
                      constructor
                      · rfl
                      · rfl
                    have hN := OvF.k16 hF_7
                    refine hK.out _ _ ⟨cell_blk (hN.low _ _ (by omega) HBU.out) 2 rfl, cell_blk (hN.low _ _ (by omega) HBU.out) 3 rfl, cell_blk (hN.low _ _ (by omega) HYU.out) 2 rfl, cell_blk (hN.low _ _ (by omega) HYU.out) 3 rfl, hN.cell HM.out Q2.out, hN.cell HM.out E20.out, hN.cell HM.out E21.out, hN.cell HM.out E22.out, hN.cell HM.out E23.out⟩ (fun hHeld => ?_)
                    clear hK K
                    refine norm_ (a' := ?_) ?_ ?_
                    rotate_left
                    · show Act.put _ (some 57) _ = _
                      simp only [Act.put, nrA, nrB, nrC, i64_w, i32_w]
                      rfl
                    exact norm_ (by first | (simp only [putAll, Act.put, nrA, nrB, nrC]; done) | (simp only [putAll, Act.put, nrA, nrB, nrC]; rfl)) (hJ7_16 (.slice (some ⟨q7, 0, none⟩) 1 r7, _) _ ⟨⟨⟨_, _, rfl⟩, ⟨_, _, rfl⟩⟩, hN⟩)
              · skip
                rintro ⟨a7, a16⟩ wn ⟨hsh, hF_7_16⟩
                obtain ⟨⟨q7, r7, rfl⟩, ⟨q16, r16, rfl⟩⟩ := hsh
                have hHeld := And.intro (cell_blk (hF_7_16.low _ _ (by omega) HBU.out) 2 rfl) (And.intro (cell_blk (hF_7_16.low _ _ (by omega) HBU.out) 3 rfl) (And.intro (cell_blk (hF_7_16.low _ _ (by omega) HYU.out) 2 rfl) (And.intro (cell_blk (hF_7_16.low _ _ (by omega) HYU.out) 3 rfl) (And.intro (hF_7_16.cell HM.out Q2.out) (And.intro (hF_7_16.cell HM.out E20.out) (And.intro (hF_7_16.cell HM.out E21.out) (And.intro (hF_7_16.cell HM.out E22.out) (hF_7_16.cell HM.out E23.out))))))))
                refine norm_ (a' := ?_) ?_ ?_
                rotate_left
                · simp only [putAll, Act.put, nrA, nrB, nrC]
                  rfl
                refine one_ (i := 8) (N := some 49) (lb 22 131071) rfl rfl (by kernel_rfl) (by decide) (fun K hK => ?_)
                refine step_snoc em_EC rfl _ _ _ rfl rfl _ _ rfl (OvF.snocK hF_7_16 HL.out.1 HL.out.2.1) ?_
                intro g cap w2 hown2 hg2 hv2 hgg2
                have hN := OvF.k8 hF_7_16 hown2 hg2 hgg2
                refine hK.out _ _ ⟨cell_blk (hN.low _ _ (by omega) HBU.out) 2 rfl, cell_blk (hN.low _ _ (by omega) HBU.out) 3 rfl, cell_blk (hN.low _ _ (by omega) HYU.out) 2 rfl, cell_blk (hN.low _ _ (by omega) HYU.out) 3 rfl, hN.cell HM.out Q2.out, hN.cell HM.out E20.out, hN.cell HM.out E21.out, hN.cell HM.out E22.out, hN.cell HM.out E23.out⟩ (fun hHeld => ?_)
                clear hK K
                refine norm_ (a' := ?_) ?_ ?_
                rotate_left
                · show Act.put _ (some 49) _ = _
                  simp only [Act.put, nrA, nrB, nrC, i64_w, i32_w]
                  rfl
                refine pure_ (i := 18) (N := some 59) (v := ?_) (a' := ?_) (lb 22 393215) rfl rfl (by kernel_rfl) (fun _ _ _ h => h) (Or.inl ⟨by rfl, ?_⟩) ?_ ?_
                rotate_left
                · intro w'
                  go_simp
                  with_reducible rfl
                rotate_left
                · simp only [Act.put, nrA, nrB, nrC, i64_w, i32_w]
                  rfl
                exact norm_ (by first | (simp only [putAll, Act.put, nrA, nrB, nrC]; done) | (simp only [putAll, Act.put, nrA, nrB, nrC]; rfl)) (hJ7_8_16 (.slice (some ⟨q7, 0, none⟩) 1 r7, _, .slice (some ⟨q16, 0, none⟩) 1 r16) _ ⟨⟨⟨_, _, rfl⟩, ⟨_, _, _, rfl⟩, ⟨_, _, rfl⟩⟩, hN⟩)
            · skip
              rintro ⟨a7, a8⟩ wn ⟨hsh, hF_7_8⟩
              obtain ⟨⟨q7, r7, rfl⟩, ⟨q8, n8, r8, rfl⟩⟩ := hsh
              have hHeld := And.intro (cell_blk (hF_7_8.low _ _ (by omega) HBU.out) 2 rfl) (And.intro (cell_blk (hF_7_8.low _ _ (by omega) HBU.out) 3 rfl) (And.intro (cell_blk (hF_7_8.low _ _ (by omega) HYU.out) 2 rfl) (And.intro (cell_blk (hF_7_8.low _ _ (by omega) HYU.out) 3 rfl) (And.intro (hF_7_8.cell HM.out Q2.out) (And.intro (hF_7_8.cell HM.out E20.out) (And.intro (hF_7_8.cell HM.out E21.out) (And.intro (hF_7_8.cell HM.out E22.out) (hF_7_8.cell HM.out E23.out))))))))
              refine norm_ (a' := ?_) ?_ ?_
              rotate_left
              · simp only [putAll, Act.put, nrA, nrB, nrC]
                rfl
              refine one_ (i := 16) (N := some 57) (lb 22 393215) rfl rfl (by kernel_rfl) (by decide) (fun K hK => ?_)
              refine value_ (w1 := ?_) (v := ?_) (by rfl) rfl ?_ ?_
              rotate_left 2
              · go_simp
                constructor
                · rfl
                · rfl
              have hN := OvF.k16 hF_7_8
              refine hK.out _ _ ⟨cell_blk (hN.low _ _ (by omega) HBU.out) 2 rfl, cell_blk (hN.low _ _ (by omega) HBU.out) 3 rfl, cell_blk (hN.low _ _ (by omega) HYU.out) 2 rfl, cell_blk (hN.low _ _ (by omega) HYU.out) 3 rfl, hN.cell HM.out Q2.out, hN.cell HM.out E20.out, hN.cell HM.out E21.out, hN.cell HM.out E22.out, hN.cell HM.out E23.out⟩ (fun hHeld => ?_)
              clear hK K
              refine norm_ (a' := ?_) ?_ ?_
              rotate_left
              · show Act.put _ (some 57) _ = _
                simp only [Act.put, nrA, nrB, nrC, i64_w, i32_w]
                rfl
              exact norm_ (by first | (simp only [putAll, Act.put, nrA, nrB, nrC]; done) | (simp only [putAll, Act.put, nrA, nrB, nrC]; rfl)) (hJ7_8_16 (.slice (some ⟨q7, 0, none⟩) 1 r7, .slice (some ⟨q8, 0, none⟩) n8 r8, _) _ ⟨⟨⟨_, _, rfl⟩, ⟨_, _, _, rfl⟩, ⟨_, _, rfl⟩⟩, hN⟩)
          rintro ⟨a7, a8, a16⟩ wn ⟨hsh, hF_7_8_16⟩
          obtain ⟨⟨q7, r7, rfl⟩, ⟨q8, n8, r8, rfl⟩, ⟨q16, r16, rfl⟩⟩ := hsh
          have hHeld := And.intro (cell_blk (hF_7_8_16.low _ _ (by omega) HBU.out) 2 rfl) (And.intro (cell_blk (hF_7_8_16.low _ _ (by omega) HBU.out) 3 rfl) (And.intro (cell_blk (hF_7_8_16.low _ _ (by omega) HYU.out) 2 rfl) (And.intro (cell_blk (hF_7_8_16.low _ _ (by omega) HYU.out) 3 rfl) (And.intro (hF_7_8_16.cell HM.out Q2.out) (And.intro (hF_7_8_16.cell HM.out E20.out) (And.intro (hF_7_8_16.cell HM.out E21.out) (And.intro (hF_7_8_16.cell HM.out E22.out) (hF_7_8_16.cell HM.out E23.out))))))))
          refine norm_ (a' := ?_) ?_ ?_
          rotate_left
          · simp only [putAll, Act.put, nrA, nrB, nrC]
            rfl
          refine one_ (i := 17) (N := some 58) (lb 22 524287) rfl rfl (by kernel_rfl) (by decide) (fun K hK => ?_)
          refine step_snoc em_EC rfl _ _ _ rfl rfl _ _ rfl (OvF.snocV hF_7_8_16 rfl (by simp [Value.oneCell']) HL.out.2.2.1 HL.out.2.2.2) ?_
          intro g17 c17 w17 hown17 hg17 hv17 hgg17
          have hFE := OvF.k17 hF_7_8_16 hown17 hg17 hgg17
          refine hK.out _ _ ⟨cell_blk (hFE.low _ _ (by omega) HBU.out) 2 rfl, cell_blk (hFE.low _ _ (by omega) HBU.out) 3 rfl, cell_blk (hFE.low _ _ (by omega) HYU.out) 2 rfl, cell_blk (hFE.low _ _ (by omega) HYU.out) 3 rfl, hFE.cell HM.out Q2.out, hFE.cell HM.out E20.out, hFE.cell HM.out E21.out, hFE.cell HM.out E22.out, hFE.cell HM.out E23.out⟩ (fun hHeld => ?_)
          clear hK K
          refine norm_ (a' := ?_) ?_ ?_
          rotate_left
          · show Act.put _ (some 58) _ = _
            simp only [Act.put, nrA, nrB, nrC, i64_w, i32_w]
            rfl
          refine last_ (i := 19) (N := none) (lb 22 1048575) rfl rfl (by kernel_rfl) (by decide) (fun K hK => ?_)
          have hB5 := hFE.low _ _ (by omega) HBU.out
          have c3 := cell_blk hB5 2 rfl
          have f3 := froz_blk hB5 2
          refine skip_ (w1 := ?_) (by rfl) rfl ?_ ?_
          rotate_left
          · go_simp
            rfl
          refine hK.out _ _ ?_
          clear hK K
          refine pure_ (i := 20) (N := some 60) (v := ?_) (a' := ?_) (lb 22 2097151) rfl rfl (by kernel_rfl) (fun _ _ _ h => h) (Or.inl ⟨by rfl, ?_⟩) ?_ ?_
          rotate_left
          · intro w'
            go_simp
            with_reducible rfl
          rotate_left
          · simp only [Act.put, nrA, nrB, nrC, i64_w, i32_w]
            rfl
          refine last_ (i := 21) (N := none) (lb 22 4194303) rfl rfl (by kernel_rfl) (by decide) (fun K hK => ?_)
          have hB6 := set_blk hB5 2 (.slice (some ⟨q8, 0, none⟩) n8 r8)
          have c4 := cell_blk hB6 3 rfl
          have f4 := froz_blk hB5 3
          refine skip_ (w1 := ?_) (by rfl) rfl ?_ ?_
          rotate_left
          · go_simp
            rfl
          refine hK.out _ _ ?_
          clear hK K
          refine done_ (by kernel_rfl) ?_
          clear c3 f3 c4 f4
          go_wp2
          go_roundw
          case rel => exact ⟨i + 1, j + 1, out ++ [(u.keys[j], u.kids[j])], vcs ++ [_], _, _, by omega, by omega, by go_num, by go_num, ovF_end HU.out HC2.out hFE, ovI_both hI.out.2 HPV.out HPU.out H6.out H6'.out hi hj hjk HLS.out⟩
          case measure => simp [intOf]; omega
        · have hls2 : Op.bytesLess v.keys[i].toList u.keys[j].toList = false := Bool.eq_false_iff.2 (fun h => less_irrefl (less_trans hgt h))
          have heq2 : (v.keys[i].toList == u.keys[j].toList) = false := by simp; exact fun e => less_irrefl (ba_ext e ▸ hgt)
          have HLS := Lib.hid hgt
          clear hgt
          go_wp2_with fail
          have A0 := fun n os => (gr_grow wr n os).cell x2
          have A1 := fun n os => (gr_grow wr n os).cell y2
          have A2 := fun n os => (gr_grow wr n os).cell (HMR.out _ _ Q1.out)
          have A3 := fun n os => (gr_grow wr n os).cell (HMR.out _ _ Q2.out)
          refine wp_region_quiet_grown hmix (by kernel_rfl) ?_
          repeat (go_big_quiet_step (fail))
          refine wpQuiet_nil ?_
          intro _ hw'
          obtain ⟨⟨nq, osq⟩, hw''⟩ := hw'
          subst hw''
          have HW := Lib.hid (OvM.bl hI.out.1 (gr_grow wr nq osq).below)
          have HMW := Lib.hid ((HMR.out).trans (mle_below (gr_grow wr nq osq).below))
          clear A0 A1 A2 A3
          generalize grow (wr.drewN nq) osq = W at HW HMW ⊢
          have HXW := Lib.hid HW.out.2.1
          have HYW := Lib.hid HW.out.2.2.1
          have HBW := Lib.hid HW.out.2.2.2.2.1
          clear x0 x1 x2 x3 y0 y1 y2 y3 hls2 hje
          go_wp2_with fail
          have A0 := fun n os => (gr_grow W n os).cell (cell_blk HXW.out 2 rfl)
          have A1 := fun n os => (gr_grow W n os).cell (cell_blk HYW.out 2 rfl)
          have A2 := fun n os => (gr_grow W n os).cell (HMW.out _ _ Q1.out)
          have A3 := fun n os => (gr_grow W n os).cell (HMW.out _ _ Q2.out)
          refine wp_region_quiet_grown hmix (by kernel_rfl) ?_
          repeat (go_big_quiet_step (fail))
          refine wpQuiet_nil ?_
          intro _ hw'
          obtain ⟨⟨nq, osq⟩, hw''⟩ := hw'
          subst hw''
          have HU := Lib.hid (OvM.bl HW.out (gr_grow W nq osq).below)
          have HMU := Lib.hid ((HMW.out).trans (mle_below (gr_grow W nq osq).below))
          clear A0 A1 A2 A3
          generalize grow (W.drewN nq) osq = U at HU HMU ⊢
          have HXU := Lib.hid HU.out.2.1
          have HYU := Lib.hid HU.out.2.2.1
          have HBU := Lib.hid HU.out.2.2.2.2.1
          clear heq2
          go_wp2_with fail
          have HL := Lib.hid (show ((out.map fun p => [Value.string p.1]).length + 1) * 16 ≤ 140737488355328 ∧ (out.map fun p => [Value.string p.1]).length + 1 ≤ maxLen ∧ (vcs.length + 1) * 72 ≤ 140737488355328 ∧ vcs.length + 1 ≤ maxLen from by have h1 := HNV.out; have h2 := HNU.out; have h3 := HLV.out; have h4 := HLU.out; have h5 := hI.out.2.len; have h6 := hI.out.1.1; simp [maxLen]; omega)
          have hF_st := Lib.hid (ovF_start HU.out u.keys[j] [.int .i64 kd2, .string tx2, .slice ak2 nk2 ck2, .slice a12 n12 c12])
          refine start_ (n := 22) (S := fun w' => w'.cell? ⟨w.heap.size + 1 + 1 + 1, 2, none⟩ = some vk ∧ w'.cell? ⟨w.heap.size + 1 + 1 + 1, 3, none⟩ = some vv ∧ w'.cell? ⟨w.heap.size + 1, 2, none⟩ = some (.slice (some ⟨lq_, loff, none⟩) u.keys.length cku) ∧ w'.cell? ⟨w.heap.size + 1, 3, none⟩ = some (.slice (some ⟨yb, yoff, none⟩) u.kids.length c1u) ∧ w'.cell? ⟨lq_, loff + j, none⟩ = some (.string u.keys[j]) ∧ w'.cell? ⟨yb, yoff + j * 4, none⟩ = some (.int .i64 kd2) ∧ w'.cell? ⟨yb, yoff + j * 4 + 1, none⟩ = some (.string tx2) ∧ w'.cell? ⟨yb, yoff + j * 4 + 2, none⟩ = some (.slice ak2 nk2 ck2) ∧ w'.cell? ⟨yb, yoff + j * 4 + 3, none⟩ = some (.slice a12 n12 c12)) (ds := [19, 21]) (lb 22 0) (by kernel_rfl) rfl rfl ⟨cell_blk (hF_st.out.low _ _ (by omega) HBU.out) 2 rfl, cell_blk (hF_st.out.low _ _ (by omega) HBU.out) 3 rfl, cell_blk (hF_st.out.low _ _ (by omega) HYU.out) 2 rfl, cell_blk (hF_st.out.low _ _ (by omega) HYU.out) 3 rfl, hF_st.out.cell HM.out Q2.out, hF_st.out.cell HM.out E20.out, hF_st.out.cell HM.out E21.out, hF_st.out.cell HM.out E22.out, hF_st.out.cell HM.out E23.out⟩ (fun hHeld => ?_)
          refine pure_ (i := 0) (N := some 41) (v := ?_) (a' := ?_) (lb 22 1) rfl rfl (by kernel_rfl) (fun _ _ _ h => h) (Or.inl ⟨by rfl, ?_⟩) ?_ ?_
          rotate_left
          · intro w'
            go_simp
            with_reducible rfl
          rotate_left
          · simp only [Act.put, nrA, nrB, nrC, i64_w, i32_w]
            rfl
          refine pure_ (i := 2) (N := some 43) (v := ?_) (a' := ?_) (lb 22 5) rfl rfl (by kernel_rfl) (fun _ _ _ h => h) (Or.inl ⟨by rfl, ?_⟩) ?_ ?_
          rotate_left
          · intro w'
            go_simp
            with_reducible rfl
          rotate_left
          · simp only [Act.put, nrA, nrB, nrC, i64_w, i32_w]
            rfl
          refine pure_ (i := 4) (N := some 45) (v := ?_) (a' := ?_) (lb 22 21) rfl rfl (by kernel_rfl) (fun _ _ _ h => h) (Or.inl ⟨by rfl, ?_⟩) ?_ ?_
          rotate_left
          · intro w'
            go_simp
            with_reducible rfl
          rotate_left
          · simp only [Act.put, nrA, nrB, nrC, i64_w, i32_w]
            rfl
          refine pure_ (i := 9) (N := some 50) (v := ?_) (a' := ?_) (lb 22 533) rfl rfl (by kernel_rfl) (fun _ _ _ h => h) (Or.inl ⟨by rfl, ?_⟩) ?_ ?_
          rotate_left
          · intro w'
            go_simp
            with_reducible rfl
          rotate_left
          · simp only [Act.put, nrA, nrB, nrC, i64_w, i32_w]
            rfl
          refine pure_ (i := 11) (N := some 52) (v := ?_) (a' := ?_) (lb 22 2581) rfl rfl (by kernel_rfl) (fun _ _ _ h => h) (Or.inl ⟨by rfl, ?_⟩) ?_ ?_
          rotate_left
          · intro w'
            go_simp
            with_reducible rfl
          rotate_left
          · simp only [Act.put, nrA, nrB, nrC, i64_w, i32_w]
            rfl
          refine pure_ (i := 13) (N := some 54) (v := ?_) (a' := ?_) (lb 22 10773) rfl rfl (by kernel_rfl) (fun _ _ _ h => h) (Or.inl ⟨by rfl, ?_⟩) ?_ ?_
          rotate_left
          · intro w'
            go_simp
            with_reducible rfl
          rotate_left
          · simp only [Act.put, nrA, nrB, nrC, i64_w, i32_w]
            rfl
          refine take_ (i := 1) (N := some 42) (v := ?_) (a' := ?_) (lb 22 10775) rfl rfl (by kernel_rfl) (fun _ _ _ h => h) (Or.inl ⟨by rfl, ?_⟩) hHeld ?_ ?_
          rotate_left
          · rintro w' ⟨s0, s1, s2, s3, s4, s5, s6, s7, s8⟩
            go_simp
            with_reducible rfl
          rotate_left
          · simp only [Act.put, nrA, nrB, nrC, i64_w, i32_w]
            rfl
          refine take_ (i := 3) (N := some 44) (v := ?_) (a' := ?_) (lb 22 10783) rfl rfl (by kernel_rfl) (fun _ _ _ h => h) (Or.inl ⟨by rfl, ?_⟩) hHeld ?_ ?_
          rotate_left
          · rintro w' ⟨s0, s1, s2, s3, s4, s5, s6, s7, s8⟩
            go_simp
            with_reducible rfl
          rotate_left
          · simp only [Act.put, nrA, nrB, nrC, i64_w, i32_w]
            rfl
          refine pure_ (i := 5) (N := some 46) (v := ?_) (a' := ?_) (lb 22 10815) rfl rfl (by kernel_rfl) (fun _ _ _ h => h) (Or.inl ⟨by rfl, ?_⟩) ?_ ?_
          rotate_left
          · intro w'
            go_simp
            with_reducible rfl
          rotate_left
          · simp only [Act.put, nrA, nrB, nrC, i64_w, i32_w]
            rfl
          refine take_ (i := 6) (N := some 47) (v := ?_) (a' := ?_) (lb 22 10879) rfl rfl (by kernel_rfl) (fun _ _ _ h => h) (Or.inl ⟨by rfl, ?_⟩) hHeld ?_ ?_
          rotate_left
          · rintro w' ⟨s0, s1, s2, s3, s4, s5, s6, s7, s8⟩
            go_simp
            with_reducible rfl
          rotate_left
          · simp only [Act.put, nrA, nrB, nrC, i64_w, i32_w]
            rfl
          refine take_ (i := 10) (N := some 51) (v := ?_) (a' := ?_) (lb 22 11903) rfl rfl (by kernel_rfl) (fun _ _ _ h => h) (Or.inl ⟨by rfl, ?_⟩) hHeld ?_ ?_
          rotate_left
          · rintro w' ⟨s0, s1, s2, s3, s4, s5, s6, s7, s8⟩
            go_simp
            with_reducible rfl
          rotate_left
          · simp only [Act.put, nrA, nrB, nrC, i64_w, i32_w]
            rfl
          refine take_ (i := 12) (N := some 53) (v := ?_) (a' := ?_) (lb 22 15999) rfl rfl (by kernel_rfl) (fun _ _ _ h => h) (Or.inl ⟨by rfl, ?_⟩) hHeld ?_ ?_
          rotate_left
          · rintro w' ⟨s0, s1, s2, s3, s4, s5, s6, s7, s8⟩
            go_simp
            with_reducible rfl
          rotate_left
          · simp only [Act.put, nrA, nrB, nrC, i64_w, i32_w]
            rfl
          refine pure_ (i := 14) (N := some 55) (v := ?_) (a' := ?_) (lb 22 32383) rfl rfl (by kernel_rfl) (fun _ _ _ h => h) (Or.inl ⟨by rfl, ?_⟩) ?_ ?_
          rotate_left
          · intro w'
            go_simp
            with_reducible rfl
          rotate_left
          · simp only [Act.put, nrA, nrB, nrC, i64_w, i32_w]
            rfl
          refine take_ (i := 15) (N := some 56) (v := ?_) (a' := ?_) (lb 22 65151) rfl rfl (by kernel_rfl) (fun _ _ _ h => h) (Or.inl ⟨by rfl, ?_⟩) hHeld ?_ ?_
          rotate_left
          · rintro w' ⟨s0, s1, s2, s3, s4, s5, s6, s7, s8⟩
            go_simp
            with_reducible rfl
          rotate_left
          · simp only [Act.put, nrA, nrB, nrC, i64_w, i32_w]
            rfl
          refine join_ (σ := Value × Value × Value) 4 (lb 22 393215) (fun s_ => [(48, s_.1), (49, s_.2.1), (57, s_.2.2), (59, .pointer (some ⟨w.heap.size + 1 + 1 + 1, 2, none⟩))]) (fun s_ w' => ((∃ q r, s_.1 = .slice (some ⟨q, 0, none⟩) 1 r) ∧ (∃ q n r, s_.2.1 = .slice (some ⟨q, 0, none⟩) n r) ∧ (∃ q r, s_.2.2 = .slice (some ⟨q, 0, none⟩) 1 r)) ∧ OvF w (w.heap.size + 4) u.keys[j] [.int .i64 kd2, .string tx2, .slice ak2 nk2 ck2, .slice a12 n12 c12] s_.2.1 ((out.map fun p => [Value.string p.1]) ++ [[.string u.keys[j]]]) vv vcs none (some s_.2.2) U w') ?_ ?_
          rotate_left
          · intro hJ7_8_16
            refine join_ (σ := Value × Value) 5 (lb 22 327679) (fun s_ => [(48, s_.1), (49, s_.2), (59, .pointer (some ⟨w.heap.size + 1 + 1 + 1, 2, none⟩))]) (fun s_ w' => ((∃ q r, s_.1 = .slice (some ⟨q, 0, none⟩) 1 r) ∧ (∃ q n r, s_.2 = .slice (some ⟨q, 0, none⟩) n r)) ∧ OvF w (w.heap.size + 4) u.keys[j] [.int .i64 kd2, .string tx2, .slice ak2 nk2 ck2, .slice a12 n12 c12] s_.2 ((out.map fun p => [Value.string p.1]) ++ [[.string u.keys[j]]]) vv vcs none none U w') ?_ ?_
            rotate_left
            · intro hJ7_8
              refine join_ (σ := Value × Value) 6 (lb 22 130815) (fun s_ => [(48, s_.1), (57, s_.2)]) (fun s_ w' => ((∃ q r, s_.1 = .slice (some ⟨q, 0, none⟩) 1 r) ∧ (∃ q r, s_.2 = .slice (some ⟨q, 0, none⟩) 1 r)) ∧ OvF w (w.heap.size + 4) u.keys[j] [.int .i64 kd2, .string tx2, .slice ak2 nk2 ck2, .slice a12 n12 c12] vk (out.map fun p => [Value.string p.1]) vv vcs (some s_.1) (some s_.2) U w') ?_ ?_
              rotate_left
              · intro hJ7_16
                refine join_ (σ := Value) 7 (lb 22 65279) (fun s_ => [(48, s_)]) (fun s_ w' => ((∃ q r, s_ = .slice (some ⟨q, 0, none⟩) 1 r)) ∧ OvF w (w.heap.size + 4) u.keys[j] [.int .i64 kd2, .string tx2, .slice ak2 nk2 ck2, .slice a12 n12 c12] vk (out.map fun p => [Value.string p.1]) vv vcs (some s_) none U w') ?_ ?_
                rotate_left
                · intro hJ7
                  refine join_ (σ := Value) 7 (lb 22 130687) (fun s_ => [(57, s_)]) (fun s_ w' => ((∃ q r, s_ = .slice (some ⟨q, 0, none⟩) 1 r)) ∧ OvF w (w.heap.size + 4) u.keys[j] [.int .i64 kd2, .string tx2, .slice ak2 nk2 ck2, .slice a12 n12 c12] vk (out.map fun p => [Value.string p.1]) vv vcs none (some s_) U w') ?_ ?_
                  rotate_left
                  · intro hJ16
                    refine two_ (i := 7) (j := 16) (Ni := some 48) (Nj := some 57) (lb 22 65279) (lb 22 130687) rfl rfl rfl rfl (by kernel_rfl) (by decide) (by decide) (fun K hK => ?_) (fun K hK => ?_)
                    · skip
                      refine value_ (w1 := ?_) (v := ?_) (by rfl) rfl ?_ ?_
                      rotate_left 2
                      · go_simp
                        constructor
                        · rfl
                        · rfl
                      have hN := OvF.k7 hF_st.out
                      refine hK.out _ _ ⟨cell_blk (hN.low _ _ (by omega) HBU.out) 2 rfl, cell_blk (hN.low _ _ (by omega) HBU.out) 3 rfl, cell_blk (hN.low _ _ (by omega) HYU.out) 2 rfl, cell_blk (hN.low _ _ (by omega) HYU.out) 3 rfl, hN.cell HM.out Q2.out, hN.cell HM.out E20.out, hN.cell HM.out E21.out, hN.cell HM.out E22.out, hN.cell HM.out E23.out⟩ (fun hHeld => ?_)
                      clear hK K
                      refine norm_ (a' := ?_) ?_ ?_
                      rotate_left
                      · show Act.put _ (some 48) _ = _
                        simp only [Act.put, nrA, nrB, nrC, i64_w, i32_w]
                        rfl
                      exact norm_ (by first | (simp only [putAll, Act.put, nrA, nrB, nrC]; done) | (simp only [putAll, Act.put, nrA, nrB, nrC]; rfl)) (hJ7 _ _ ⟨⟨_, _, rfl⟩, hN⟩)
                    · skip
                      refine value_ (w1 := ?_) (v := ?_) (by rfl) rfl ?_ ?_
                      rotate_left 2
                      · go_simp
                        constructor
                        · rfl
                        · rfl
                      have hN := OvF.k16 hF_st.out
                      refine hK.out _ _ ⟨cell_blk (hN.low _ _ (by omega) HBU.out) 2 rfl, cell_blk (hN.low _ _ (by omega) HBU.out) 3 rfl, cell_blk (hN.low _ _ (by omega) HYU.out) 2 rfl, cell_blk (hN.low _ _ (by omega) HYU.out) 3 rfl, hN.cell HM.out Q2.out, hN.cell HM.out E20.out, hN.cell HM.out E21.out, hN.cell HM.out E22.out, hN.cell HM.out E23.out⟩ (fun hHeld => ?_)
                      clear hK K
                      refine norm_ (a' := ?_) ?_ ?_
                      rotate_left
                      · show Act.put _ (some 57) _ = _
                        simp only [Act.put, nrA, nrB, nrC, i64_w, i32_w]
                        rfl
                      exact norm_ (by first | (simp only [putAll, Act.put, nrA, nrB, nrC]; done) | (simp only [putAll, Act.put, nrA, nrB, nrC]; rfl)) (hJ16 _ _ ⟨⟨_, _, rfl⟩, hN⟩)
                  · skip
                    rintro a16 wn ⟨hsh, hF_16⟩
                    obtain ⟨q16, r16, rfl⟩ := hsh
                    have hHeld := And.intro (cell_blk (hF_16.low _ _ (by omega) HBU.out) 2 rfl) (And.intro (cell_blk (hF_16.low _ _ (by omega) HBU.out) 3 rfl) (And.intro (cell_blk (hF_16.low _ _ (by omega) HYU.out) 2 rfl) (And.intro (cell_blk (hF_16.low _ _ (by omega) HYU.out) 3 rfl) (And.intro (hF_16.cell HM.out Q2.out) (And.intro (hF_16.cell HM.out E20.out) (And.intro (hF_16.cell HM.out E21.out) (And.intro (hF_16.cell HM.out E22.out) (hF_16.cell HM.out E23.out))))))))
                    refine norm_ (a' := ?_) ?_ ?_
                    rotate_left
                    · simp only [putAll, Act.put, nrA, nrB, nrC]
                      rfl
                    refine one_ (i := 7) (N := some 48) (lb 22 130815) rfl rfl (by kernel_rfl) (by decide) (fun K hK => ?_)
                    refine value_ (w1 := ?_) (v := ?_) (by rfl) rfl ?_ ?_
                    rotate_left 2
                    · go_simp
                      constructor
                      · rfl
                      · rfl
                    have hN := OvF.k7 hF_16
                    refine hK.out _ _ ⟨cell_blk (hN.low _ _ (by omega) HBU.out) 2 rfl, cell_blk (hN.low _ _ (by omega) HBU.out) 3 rfl, cell_blk (hN.low _ _ (by omega) HYU.out) 2 rfl, cell_blk (hN.low _ _ (by omega) HYU.out) 3 rfl, hN.cell HM.out Q2.out, hN.cell HM.out E20.out, hN.cell HM.out E21.out, hN.cell HM.out E22.out, hN.cell HM.out E23.out⟩ (fun hHeld => ?_)
                    clear hK K
                    refine norm_ (a' := ?_) ?_ ?_
                    rotate_left
                    · show Act.put _ (some 48) _ = _
                      simp only [Act.put, nrA, nrB, nrC, i64_w, i32_w]
                      rfl
                    exact norm_ (by first | (simp only [putAll, Act.put, nrA, nrB, nrC]; done) | (simp only [putAll, Act.put, nrA, nrB, nrC]; rfl)) (hJ7_16 (_, .slice (some ⟨q16, 0, none⟩) 1 r16) _ ⟨⟨⟨_, _, rfl⟩, ⟨_, _, rfl⟩⟩, hN⟩)
                · skip
                  rintro a7 wn ⟨hsh, hF_7⟩
                  obtain ⟨q7, r7, rfl⟩ := hsh
                  have hHeld := And.intro (cell_blk (hF_7.low _ _ (by omega) HBU.out) 2 rfl) (And.intro (cell_blk (hF_7.low _ _ (by omega) HBU.out) 3 rfl) (And.intro (cell_blk (hF_7.low _ _ (by omega) HYU.out) 2 rfl) (And.intro (cell_blk (hF_7.low _ _ (by omega) HYU.out) 3 rfl) (And.intro (hF_7.cell HM.out Q2.out) (And.intro (hF_7.cell HM.out E20.out) (And.intro (hF_7.cell HM.out E21.out) (And.intro (hF_7.cell HM.out E22.out) (hF_7.cell HM.out E23.out))))))))
                  refine norm_ (a' := ?_) ?_ ?_
                  rotate_left
                  · simp only [putAll, Act.put, nrA, nrB, nrC]
                    rfl
                  refine two_ (i := 8) (j := 16) (Ni := some 49) (Nj := some 57) (lb 22 65535) (lb 22 130815) rfl rfl rfl rfl (by kernel_rfl) (by decide) (by decide) (fun K hK => ?_) (fun K hK => ?_)
                  · skip
                    refine step_snoc em_EC rfl _ _ _ rfl rfl _ _ rfl (OvF.snocK hF_7 HL.out.1 HL.out.2.1) ?_
                    intro g cap w2 hown2 hg2 hv2 hgg2
                    have hN := OvF.k8 hF_7 hown2 hg2 hgg2
                    refine hK.out _ _ ⟨cell_blk (hN.low _ _ (by omega) HBU.out) 2 rfl, cell_blk (hN.low _ _ (by omega) HBU.out) 3 rfl, cell_blk (hN.low _ _ (by omega) HYU.out) 2 rfl, cell_blk (hN.low _ _ (by omega) HYU.out) 3 rfl, hN.cell HM.out Q2.out, hN.cell HM.out E20.out, hN.cell HM.out E21.out, hN.cell HM.out E22.out, hN.cell HM.out E23.out⟩ (fun hHeld => ?_)
                    clear hK K
                    refine norm_ (a' := ?_) ?_ ?_
                    rotate_left
                    · show Act.put _ (some 49) _ = _
                      simp only [Act.put, nrA, nrB, nrC, i64_w, i32_w]
                      rfl
                    refine pure_ (i := 18) (N := some 59) (v := ?_) (a' := ?_) (lb 22 327679) rfl rfl (by kernel_rfl) (fun _ _ _ h => h) (Or.inl ⟨by rfl, ?_⟩) ?_ ?_
                    rotate_left
                    · intro w'
                      go_simp
                      with_reducible rfl
                    rotate_left
                    · simp only [Act.put, nrA, nrB, nrC, i64_w, i32_w]
                      rfl
                    exact norm_ (by first | (simp only [putAll, Act.put, nrA, nrB, nrC]; done) | (simp only [putAll, Act.put, nrA, nrB, nrC]; rfl)) (hJ7_8 (.slice (some ⟨q7, 0, none⟩) 1 r7, _) _ ⟨⟨⟨_, _, rfl⟩, ⟨_, _, _, rfl⟩⟩, hN⟩)
                  · skip
                    refine value_ (w1 := ?_) (v := ?_) (by rfl) rfl ?_ ?_
                    rotate_left 2
                    · go_simp
                      constructor
                      · rfl
                      · rfl
                    have hN := OvF.k16 hF_7
                    refine hK.out _ _ ⟨cell_blk (hN.low _ _ (by omega) HBU.out) 2 rfl, cell_blk (hN.low _ _ (by omega) HBU.out) 3 rfl, cell_blk (hN.low _ _ (by omega) HYU.out) 2 rfl, cell_blk (hN.low _ _ (by omega) HYU.out) 3 rfl, hN.cell HM.out Q2.out, hN.cell HM.out E20.out, hN.cell HM.out E21.out, hN.cell HM.out E22.out, hN.cell HM.out E23.out⟩ (fun hHeld => ?_)
                    clear hK K
                    refine norm_ (a' := ?_) ?_ ?_
                    rotate_left
                    · show Act.put _ (some 57) _ = _
                      simp only [Act.put, nrA, nrB, nrC, i64_w, i32_w]
                      rfl
                    exact norm_ (by first | (simp only [putAll, Act.put, nrA, nrB, nrC]; done) | (simp only [putAll, Act.put, nrA, nrB, nrC]; rfl)) (hJ7_16 (.slice (some ⟨q7, 0, none⟩) 1 r7, _) _ ⟨⟨⟨_, _, rfl⟩, ⟨_, _, rfl⟩⟩, hN⟩)
              · skip
                rintro ⟨a7, a16⟩ wn ⟨hsh, hF_7_16⟩
                obtain ⟨⟨q7, r7, rfl⟩, ⟨q16, r16, rfl⟩⟩ := hsh
                have hHeld := And.intro (cell_blk (hF_7_16.low _ _ (by omega) HBU.out) 2 rfl) (And.intro (cell_blk (hF_7_16.low _ _ (by omega) HBU.out) 3 rfl) (And.intro (cell_blk (hF_7_16.low _ _ (by omega) HYU.out) 2 rfl) (And.intro (cell_blk (hF_7_16.low _ _ (by omega) HYU.out) 3 rfl) (And.intro (hF_7_16.cell HM.out Q2.out) (And.intro (hF_7_16.cell HM.out E20.out) (And.intro (hF_7_16.cell HM.out E21.out) (And.intro (hF_7_16.cell HM.out E22.out) (hF_7_16.cell HM.out E23.out))))))))
                refine norm_ (a' := ?_) ?_ ?_
                rotate_left
                · simp only [putAll, Act.put, nrA, nrB, nrC]
                  rfl
                refine one_ (i := 8) (N := some 49) (lb 22 131071) rfl rfl (by kernel_rfl) (by decide) (fun K hK => ?_)
                refine step_snoc em_EC rfl _ _ _ rfl rfl _ _ rfl (OvF.snocK hF_7_16 HL.out.1 HL.out.2.1) ?_
                intro g cap w2 hown2 hg2 hv2 hgg2
                have hN := OvF.k8 hF_7_16 hown2 hg2 hgg2
                refine hK.out _ _ ⟨cell_blk (hN.low _ _ (by omega) HBU.out) 2 rfl, cell_blk (hN.low _ _ (by omega) HBU.out) 3 rfl, cell_blk (hN.low _ _ (by omega) HYU.out) 2 rfl, cell_blk (hN.low _ _ (by omega) HYU.out) 3 rfl, hN.cell HM.out Q2.out, hN.cell HM.out E20.out, hN.cell HM.out E21.out, hN.cell HM.out E22.out, hN.cell HM.out E23.out⟩ (fun hHeld => ?_)
                clear hK K
                refine norm_ (a' := ?_) ?_ ?_
                rotate_left
                · show Act.put _ (some 49) _ = _
                  simp only [Act.put, nrA, nrB, nrC, i64_w, i32_w]
                  rfl
                refine pure_ (i := 18) (N := some 59) (v := ?_) (a' := ?_) (lb 22 393215) rfl rfl (by kernel_rfl) (fun _ _ _ h => h) (Or.inl ⟨by rfl, ?_⟩) ?_ ?_
                rotate_left
                · intro w'
                  go_simp
                  with_reducible rfl
                rotate_left
                · simp only [Act.put, nrA, nrB, nrC, i64_w, i32_w]
                  rfl
                exact norm_ (by first | (simp only [putAll, Act.put, nrA, nrB, nrC]; done) | (simp only [putAll, Act.put, nrA, nrB, nrC]; rfl)) (hJ7_8_16 (.slice (some ⟨q7, 0, none⟩) 1 r7, _, .slice (some ⟨q16, 0, none⟩) 1 r16) _ ⟨⟨⟨_, _, rfl⟩, ⟨_, _, _, rfl⟩, ⟨_, _, rfl⟩⟩, hN⟩)
            · skip
              rintro ⟨a7, a8⟩ wn ⟨hsh, hF_7_8⟩
              obtain ⟨⟨q7, r7, rfl⟩, ⟨q8, n8, r8, rfl⟩⟩ := hsh
              have hHeld := And.intro (cell_blk (hF_7_8.low _ _ (by omega) HBU.out) 2 rfl) (And.intro (cell_blk (hF_7_8.low _ _ (by omega) HBU.out) 3 rfl) (And.intro (cell_blk (hF_7_8.low _ _ (by omega) HYU.out) 2 rfl) (And.intro (cell_blk (hF_7_8.low _ _ (by omega) HYU.out) 3 rfl) (And.intro (hF_7_8.cell HM.out Q2.out) (And.intro (hF_7_8.cell HM.out E20.out) (And.intro (hF_7_8.cell HM.out E21.out) (And.intro (hF_7_8.cell HM.out E22.out) (hF_7_8.cell HM.out E23.out))))))))
              refine norm_ (a' := ?_) ?_ ?_
              rotate_left
              · simp only [putAll, Act.put, nrA, nrB, nrC]
                rfl
              refine one_ (i := 16) (N := some 57) (lb 22 393215) rfl rfl (by kernel_rfl) (by decide) (fun K hK => ?_)
              refine value_ (w1 := ?_) (v := ?_) (by rfl) rfl ?_ ?_
              rotate_left 2
              · go_simp
                constructor
                · rfl
                · rfl
              have hN := OvF.k16 hF_7_8
              refine hK.out _ _ ⟨cell_blk (hN.low _ _ (by omega) HBU.out) 2 rfl, cell_blk (hN.low _ _ (by omega) HBU.out) 3 rfl, cell_blk (hN.low _ _ (by omega) HYU.out) 2 rfl, cell_blk (hN.low _ _ (by omega) HYU.out) 3 rfl, hN.cell HM.out Q2.out, hN.cell HM.out E20.out, hN.cell HM.out E21.out, hN.cell HM.out E22.out, hN.cell HM.out E23.out⟩ (fun hHeld => ?_)
              clear hK K
              refine norm_ (a' := ?_) ?_ ?_
              rotate_left
              · show Act.put _ (some 57) _ = _
                simp only [Act.put, nrA, nrB, nrC, i64_w, i32_w]
                rfl
              exact norm_ (by first | (simp only [putAll, Act.put, nrA, nrB, nrC]; done) | (simp only [putAll, Act.put, nrA, nrB, nrC]; rfl)) (hJ7_8_16 (.slice (some ⟨q7, 0, none⟩) 1 r7, .slice (some ⟨q8, 0, none⟩) n8 r8, _) _ ⟨⟨⟨_, _, rfl⟩, ⟨_, _, _, rfl⟩, ⟨_, _, rfl⟩⟩, hN⟩)
          rintro ⟨a7, a8, a16⟩ wn ⟨hsh, hF_7_8_16⟩
          obtain ⟨⟨q7, r7, rfl⟩, ⟨q8, n8, r8, rfl⟩, ⟨q16, r16, rfl⟩⟩ := hsh
          have hHeld := And.intro (cell_blk (hF_7_8_16.low _ _ (by omega) HBU.out) 2 rfl) (And.intro (cell_blk (hF_7_8_16.low _ _ (by omega) HBU.out) 3 rfl) (And.intro (cell_blk (hF_7_8_16.low _ _ (by omega) HYU.out) 2 rfl) (And.intro (cell_blk (hF_7_8_16.low _ _ (by omega) HYU.out) 3 rfl) (And.intro (hF_7_8_16.cell HM.out Q2.out) (And.intro (hF_7_8_16.cell HM.out E20.out) (And.intro (hF_7_8_16.cell HM.out E21.out) (And.intro (hF_7_8_16.cell HM.out E22.out) (hF_7_8_16.cell HM.out E23.out))))))))
          refine norm_ (a' := ?_) ?_ ?_
          rotate_left
          · simp only [putAll, Act.put, nrA, nrB, nrC]
            rfl
          refine one_ (i := 17) (N := some 58) (lb 22 524287) rfl rfl (by kernel_rfl) (by decide) (fun K hK => ?_)
          refine step_snoc em_EC rfl _ _ _ rfl rfl _ _ rfl (OvF.snocV hF_7_8_16 rfl (by simp [Value.oneCell']) HL.out.2.2.1 HL.out.2.2.2) ?_
          intro g17 c17 w17 hown17 hg17 hv17 hgg17
          have hFE := OvF.k17 hF_7_8_16 hown17 hg17 hgg17
          refine hK.out _ _ ⟨cell_blk (hFE.low _ _ (by omega) HBU.out) 2 rfl, cell_blk (hFE.low _ _ (by omega) HBU.out) 3 rfl, cell_blk (hFE.low _ _ (by omega) HYU.out) 2 rfl, cell_blk (hFE.low _ _ (by omega) HYU.out) 3 rfl, hFE.cell HM.out Q2.out, hFE.cell HM.out E20.out, hFE.cell HM.out E21.out, hFE.cell HM.out E22.out, hFE.cell HM.out E23.out⟩ (fun hHeld => ?_)
          clear hK K
          refine norm_ (a' := ?_) ?_ ?_
          rotate_left
          · show Act.put _ (some 58) _ = _
            simp only [Act.put, nrA, nrB, nrC, i64_w, i32_w]
            rfl
          refine last_ (i := 19) (N := none) (lb 22 1048575) rfl rfl (by kernel_rfl) (by decide) (fun K hK => ?_)
          have hB5 := hFE.low _ _ (by omega) HBU.out
          have c3 := cell_blk hB5 2 rfl
          have f3 := froz_blk hB5 2
          refine skip_ (w1 := ?_) (by rfl) rfl ?_ ?_
          rotate_left
          · go_simp
            rfl
          refine hK.out _ _ ?_
          clear hK K
          refine pure_ (i := 20) (N := some 60) (v := ?_) (a' := ?_) (lb 22 2097151) rfl rfl (by kernel_rfl) (fun _ _ _ h => h) (Or.inl ⟨by rfl, ?_⟩) ?_ ?_
          rotate_left
          · intro w'
            go_simp
            with_reducible rfl
          rotate_left
          · simp only [Act.put, nrA, nrB, nrC, i64_w, i32_w]
            rfl
          refine last_ (i := 21) (N := none) (lb 22 4194303) rfl rfl (by kernel_rfl) (by decide) (fun K hK => ?_)
          have hB6 := set_blk hB5 2 (.slice (some ⟨q8, 0, none⟩) n8 r8)
          have c4 := cell_blk hB6 3 rfl
          have f4 := froz_blk hB5 3
          refine skip_ (w1 := ?_) (by rfl) rfl ?_ ?_
          rotate_left
          · go_simp
            rfl
          refine hK.out _ _ ?_
          clear hK K
          refine done_ (by kernel_rfl) ?_
          clear c3 f3 c4 f4
          go_wp2
          go_roundw
          case rel => exact ⟨i, j + 1, out ++ [(u.keys[j], u.kids[j])], vcs ++ [_], _, _, by omega, by omega, by go_num, by go_num, ovF_end HU.out HC2.out hFE, ovI_u hI.out.2 HPV.out HPU.out H6.out H6'.out hj hjk (fun _ => HLS.out)⟩
          case measure => simp [intOf]; omega
      · obtain rfl : j = u.keys.length := by omega
        go_wp2_with fail
        have A0 := fun n os => (gr_grow wr n os).cell x2
        have A1 := fun n os => (gr_grow wr n os).cell y2
        have A2 := fun n os => (gr_grow wr n os).cell (HMR.out _ _ Q1.out)
        refine wp_region_quiet_grown hmix (by kernel_rfl) ?_
        repeat (go_big_quiet_step (fail))
        refine wpQuiet_nil ?_
        intro _ hw'
        obtain ⟨⟨nq, osq⟩, hw''⟩ := hw'
        subst hw''
        have HW := Lib.hid (OvM.bl hI.out.1 (gr_grow wr nq osq).below)
        have HMW := Lib.hid ((HMR.out).trans (mle_below (gr_grow wr nq osq).below))
        clear A0 A1 A2
        generalize grow (wr.drewN nq) osq = W at HW HMW ⊢
        have HXW := Lib.hid HW.out.2.1
        have HYW := Lib.hid HW.out.2.2.1
        have HBW := Lib.hid HW.out.2.2.2.2.1
        clear x0 x1 x2 x3 y0 y1 y2 y3
        go_wp2_with fail
        have HL := Lib.hid (show ((out.map fun p => [Value.string p.1]).length + 1) * 16 ≤ 140737488355328 ∧ (out.map fun p => [Value.string p.1]).length + 1 ≤ maxLen ∧ (vcs.length + 1) * 72 ≤ 140737488355328 ∧ vcs.length + 1 ≤ maxLen from by have h1 := HNV.out; have h2 := HNU.out; have h3 := HLV.out; have h4 := HLU.out; have h5 := hI.out.2.len; have h6 := hI.out.1.1; simp [maxLen]; omega)
        have hF_st := Lib.hid (ovF_start HW.out v.keys[i] [.int .i64 kd1, .string tx1, .slice ak1 nk1 ck1, .slice a11 n11 c11])
        refine start_ (n := 22) (S := fun w' => w'.cell? ⟨w.heap.size + 1 + 1 + 1, 2, none⟩ = some vk ∧ w'.cell? ⟨w.heap.size + 1 + 1 + 1, 3, none⟩ = some vv ∧ w'.cell? ⟨w.heap.size, 2, none⟩ = some (.slice (some ⟨kb, koff, none⟩) v.keys.length ckv) ∧ w'.cell? ⟨w.heap.size, 3, none⟩ = some (.slice (some ⟨xb, xoff, none⟩) v.kids.length c1v) ∧ w'.cell? ⟨kb, koff + i, none⟩ = some (.string v.keys[i]) ∧ w'.cell? ⟨xb, xoff + i * 4, none⟩ = some (.int .i64 kd1) ∧ w'.cell? ⟨xb, xoff + i * 4 + 1, none⟩ = some (.string tx1) ∧ w'.cell? ⟨xb, xoff + i * 4 + 2, none⟩ = some (.slice ak1 nk1 ck1) ∧ w'.cell? ⟨xb, xoff + i * 4 + 3, none⟩ = some (.slice a11 n11 c11)) (ds := [19, 21]) (lb 22 0) (by kernel_rfl) rfl rfl ⟨cell_blk (hF_st.out.low _ _ (by omega) HBW.out) 2 rfl, cell_blk (hF_st.out.low _ _ (by omega) HBW.out) 3 rfl, cell_blk (hF_st.out.low _ _ (by omega) HXW.out) 2 rfl, cell_blk (hF_st.out.low _ _ (by omega) HXW.out) 3 rfl, hF_st.out.cell HM.out Q1.out, hF_st.out.cell HM.out E10.out, hF_st.out.cell HM.out E11.out, hF_st.out.cell HM.out E12.out, hF_st.out.cell HM.out E13.out⟩ (fun hHeld => ?_)
        refine pure_ (i := 0) (N := some 89) (v := ?_) (a' := ?_) (lb 22 1) rfl rfl (by kernel_rfl) (fun _ _ _ h => h) (Or.inl ⟨by rfl, ?_⟩) ?_ ?_
        rotate_left
        · intro w'
          go_simp
          with_reducible rfl
        rotate_left
        · simp only [Act.put, nrA, nrB, nrC, i64_w, i32_w]
          rfl
        refine pure_ (i := 2) (N := some 91) (v := ?_) (a' := ?_) (lb 22 5) rfl rfl (by kernel_rfl) (fun _ _ _ h => h) (Or.inl ⟨by rfl, ?_⟩) ?_ ?_
        rotate_left
        · intro w'
          go_simp
          with_reducible rfl
        rotate_left
        · simp only [Act.put, nrA, nrB, nrC, i64_w, i32_w]
          rfl
        refine pure_ (i := 4) (N := some 93) (v := ?_) (a' := ?_) (lb 22 21) rfl rfl (by kernel_rfl) (fun _ _ _ h => h) (Or.inl ⟨by rfl, ?_⟩) ?_ ?_
        rotate_left
        · intro w'
          go_simp
          with_reducible rfl
        rotate_left
        · simp only [Act.put, nrA, nrB, nrC, i64_w, i32_w]
          rfl
        refine pure_ (i := 9) (N := some 98) (v := ?_) (a' := ?_) (lb 22 533) rfl rfl (by kernel_rfl) (fun _ _ _ h => h) (Or.inl ⟨by rfl, ?_⟩) ?_ ?_
        rotate_left
        · intro w'
          go_simp
          with_reducible rfl
        rotate_left
        · simp only [Act.put, nrA, nrB, nrC, i64_w, i32_w]
          rfl
        refine pure_ (i := 11) (N := some 100) (v := ?_) (a' := ?_) (lb 22 2581) rfl rfl (by kernel_rfl) (fun _ _ _ h => h) (Or.inl ⟨by rfl, ?_⟩) ?_ ?_
        rotate_left
        · intro w'
          go_simp
          with_reducible rfl
        rotate_left
        · simp only [Act.put, nrA, nrB, nrC, i64_w, i32_w]
          rfl
        refine pure_ (i := 13) (N := some 102) (v := ?_) (a' := ?_) (lb 22 10773) rfl rfl (by kernel_rfl) (fun _ _ _ h => h) (Or.inl ⟨by rfl, ?_⟩) ?_ ?_
        rotate_left
        · intro w'
          go_simp
          with_reducible rfl
        rotate_left
        · simp only [Act.put, nrA, nrB, nrC, i64_w, i32_w]
          rfl
        refine take_ (i := 1) (N := some 90) (v := ?_) (a' := ?_) (lb 22 10775) rfl rfl (by kernel_rfl) (fun _ _ _ h => h) (Or.inl ⟨by rfl, ?_⟩) hHeld ?_ ?_
        rotate_left
        · rintro w' ⟨s0, s1, s2, s3, s4, s5, s6, s7, s8⟩
          go_simp
          with_reducible rfl
        rotate_left
        · simp only [Act.put, nrA, nrB, nrC, i64_w, i32_w]
          rfl
        refine take_ (i := 3) (N := some 92) (v := ?_) (a' := ?_) (lb 22 10783) rfl rfl (by kernel_rfl) (fun _ _ _ h => h) (Or.inl ⟨by rfl, ?_⟩) hHeld ?_ ?_
        rotate_left
        · rintro w' ⟨s0, s1, s2, s3, s4, s5, s6, s7, s8⟩
          go_simp
          with_reducible rfl
        rotate_left
        · simp only [Act.put, nrA, nrB, nrC, i64_w, i32_w]
          rfl
        refine pure_ (i := 5) (N := some 94) (v := ?_) (a' := ?_) (lb 22 10815) rfl rfl (by kernel_rfl) (fun _ _ _ h => h) (Or.inl ⟨by rfl, ?_⟩) ?_ ?_
        rotate_left
        · intro w'
          go_simp
          with_reducible rfl
        rotate_left
        · simp only [Act.put, nrA, nrB, nrC, i64_w, i32_w]
          rfl
        refine take_ (i := 6) (N := some 95) (v := ?_) (a' := ?_) (lb 22 10879) rfl rfl (by kernel_rfl) (fun _ _ _ h => h) (Or.inl ⟨by rfl, ?_⟩) hHeld ?_ ?_
        rotate_left
        · rintro w' ⟨s0, s1, s2, s3, s4, s5, s6, s7, s8⟩
          go_simp
          with_reducible rfl
        rotate_left
        · simp only [Act.put, nrA, nrB, nrC, i64_w, i32_w]
          rfl
        refine take_ (i := 10) (N := some 99) (v := ?_) (a' := ?_) (lb 22 11903) rfl rfl (by kernel_rfl) (fun _ _ _ h => h) (Or.inl ⟨by rfl, ?_⟩) hHeld ?_ ?_
        rotate_left
        · rintro w' ⟨s0, s1, s2, s3, s4, s5, s6, s7, s8⟩
          go_simp
          with_reducible rfl
        rotate_left
        · simp only [Act.put, nrA, nrB, nrC, i64_w, i32_w]
          rfl
        refine take_ (i := 12) (N := some 101) (v := ?_) (a' := ?_) (lb 22 15999) rfl rfl (by kernel_rfl) (fun _ _ _ h => h) (Or.inl ⟨by rfl, ?_⟩) hHeld ?_ ?_
        rotate_left
        · rintro w' ⟨s0, s1, s2, s3, s4, s5, s6, s7, s8⟩
          go_simp
          with_reducible rfl
        rotate_left
        · simp only [Act.put, nrA, nrB, nrC, i64_w, i32_w]
          rfl
        refine pure_ (i := 14) (N := some 103) (v := ?_) (a' := ?_) (lb 22 32383) rfl rfl (by kernel_rfl) (fun _ _ _ h => h) (Or.inl ⟨by rfl, ?_⟩) ?_ ?_
        rotate_left
        · intro w'
          go_simp
          with_reducible rfl
        rotate_left
        · simp only [Act.put, nrA, nrB, nrC, i64_w, i32_w]
          rfl
        refine take_ (i := 15) (N := some 104) (v := ?_) (a' := ?_) (lb 22 65151) rfl rfl (by kernel_rfl) (fun _ _ _ h => h) (Or.inl ⟨by rfl, ?_⟩) hHeld ?_ ?_
        rotate_left
        · rintro w' ⟨s0, s1, s2, s3, s4, s5, s6, s7, s8⟩
          go_simp
          with_reducible rfl
        rotate_left
        · simp only [Act.put, nrA, nrB, nrC, i64_w, i32_w]
          rfl
        refine join_ (σ := Value × Value × Value) 4 (lb 22 393215) (fun s_ => [(96, s_.1), (97, s_.2.1), (105, s_.2.2), (107, .pointer (some ⟨w.heap.size + 1 + 1 + 1, 2, none⟩))]) (fun s_ w' => ((∃ q r, s_.1 = .slice (some ⟨q, 0, none⟩) 1 r) ∧ (∃ q n r, s_.2.1 = .slice (some ⟨q, 0, none⟩) n r) ∧ (∃ q r, s_.2.2 = .slice (some ⟨q, 0, none⟩) 1 r)) ∧ OvF w (w.heap.size + 4) v.keys[i] [.int .i64 kd1, .string tx1, .slice ak1 nk1 ck1, .slice a11 n11 c11] s_.2.1 ((out.map fun p => [Value.string p.1]) ++ [[.string v.keys[i]]]) vv vcs none (some s_.2.2) W w') ?_ ?_
        rotate_left
        · intro hJ7_8_16
          refine join_ (σ := Value × Value) 5 (lb 22 327679) (fun s_ => [(96, s_.1), (97, s_.2), (107, .pointer (some ⟨w.heap.size + 1 + 1 + 1, 2, none⟩))]) (fun s_ w' => ((∃ q r, s_.1 = .slice (some ⟨q, 0, none⟩) 1 r) ∧ (∃ q n r, s_.2 = .slice (some ⟨q, 0, none⟩) n r)) ∧ OvF w (w.heap.size + 4) v.keys[i] [.int .i64 kd1, .string tx1, .slice ak1 nk1 ck1, .slice a11 n11 c11] s_.2 ((out.map fun p => [Value.string p.1]) ++ [[.string v.keys[i]]]) vv vcs none none W w') ?_ ?_
          rotate_left
          · intro hJ7_8
            refine join_ (σ := Value × Value) 6 (lb 22 130815) (fun s_ => [(96, s_.1), (105, s_.2)]) (fun s_ w' => ((∃ q r, s_.1 = .slice (some ⟨q, 0, none⟩) 1 r) ∧ (∃ q r, s_.2 = .slice (some ⟨q, 0, none⟩) 1 r)) ∧ OvF w (w.heap.size + 4) v.keys[i] [.int .i64 kd1, .string tx1, .slice ak1 nk1 ck1, .slice a11 n11 c11] vk (out.map fun p => [Value.string p.1]) vv vcs (some s_.1) (some s_.2) W w') ?_ ?_
            rotate_left
            · intro hJ7_16
              refine join_ (σ := Value) 7 (lb 22 65279) (fun s_ => [(96, s_)]) (fun s_ w' => ((∃ q r, s_ = .slice (some ⟨q, 0, none⟩) 1 r)) ∧ OvF w (w.heap.size + 4) v.keys[i] [.int .i64 kd1, .string tx1, .slice ak1 nk1 ck1, .slice a11 n11 c11] vk (out.map fun p => [Value.string p.1]) vv vcs (some s_) none W w') ?_ ?_
              rotate_left
              · intro hJ7
                refine join_ (σ := Value) 7 (lb 22 130687) (fun s_ => [(105, s_)]) (fun s_ w' => ((∃ q r, s_ = .slice (some ⟨q, 0, none⟩) 1 r)) ∧ OvF w (w.heap.size + 4) v.keys[i] [.int .i64 kd1, .string tx1, .slice ak1 nk1 ck1, .slice a11 n11 c11] vk (out.map fun p => [Value.string p.1]) vv vcs none (some s_) W w') ?_ ?_
                rotate_left
                · intro hJ16
                  refine two_ (i := 7) (j := 16) (Ni := some 96) (Nj := some 105) (lb 22 65279) (lb 22 130687) rfl rfl rfl rfl (by kernel_rfl) (by decide) (by decide) (fun K hK => ?_) (fun K hK => ?_)
                  · skip
                    refine value_ (w1 := ?_) (v := ?_) (by rfl) rfl ?_ ?_
                    rotate_left 2
                    · go_simp
                      constructor
                      · rfl
                      · rfl
                    have hN := OvF.k7 hF_st.out
                    refine hK.out _ _ ⟨cell_blk (hN.low _ _ (by omega) HBW.out) 2 rfl, cell_blk (hN.low _ _ (by omega) HBW.out) 3 rfl, cell_blk (hN.low _ _ (by omega) HXW.out) 2 rfl, cell_blk (hN.low _ _ (by omega) HXW.out) 3 rfl, hN.cell HM.out Q1.out, hN.cell HM.out E10.out, hN.cell HM.out E11.out, hN.cell HM.out E12.out, hN.cell HM.out E13.out⟩ (fun hHeld => ?_)
                    clear hK K
                    refine norm_ (a' := ?_) ?_ ?_
                    rotate_left
                    · show Act.put _ (some 96) _ = _
                      simp only [Act.put, nrA, nrB, nrC, i64_w, i32_w]
                      rfl
                    exact norm_ (by first | (simp only [putAll, Act.put, nrA, nrB, nrC]; done) | (simp only [putAll, Act.put, nrA, nrB, nrC]; rfl)) (hJ7 _ _ ⟨⟨_, _, rfl⟩, hN⟩)
                  · skip
                    refine value_ (w1 := ?_) (v := ?_) (by rfl) rfl ?_ ?_
                    rotate_left 2
                    · go_simp
                      constructor
                      · rfl
                      · rfl
                    have hN := OvF.k16 hF_st.out
                    refine hK.out _ _ ⟨cell_blk (hN.low _ _ (by omega) HBW.out) 2 rfl, cell_blk (hN.low _ _ (by omega) HBW.out) 3 rfl, cell_blk (hN.low _ _ (by omega) HXW.out) 2 rfl, cell_blk (hN.low _ _ (by omega) HXW.out) 3 rfl, hN.cell HM.out Q1.out, hN.cell HM.out E10.out, hN.cell HM.out E11.out, hN.cell HM.out E12.out, hN.cell HM.out E13.out⟩ (fun hHeld => ?_)
                    clear hK K
                    refine norm_ (a' := ?_) ?_ ?_
                    rotate_left
                    · show Act.put _ (some 105) _ = _
                      simp only [Act.put, nrA, nrB, nrC, i64_w, i32_w]
                      rfl
                    exact norm_ (by first | (simp only [putAll, Act.put, nrA, nrB, nrC]; done) | (simp only [putAll, Act.put, nrA, nrB, nrC]; rfl)) (hJ16 _ _ ⟨⟨_, _, rfl⟩, hN⟩)
                · skip
                  rintro a16 wn ⟨hsh, hF_16⟩
                  obtain ⟨q16, r16, rfl⟩ := hsh
                  have hHeld := And.intro (cell_blk (hF_16.low _ _ (by omega) HBW.out) 2 rfl) (And.intro (cell_blk (hF_16.low _ _ (by omega) HBW.out) 3 rfl) (And.intro (cell_blk (hF_16.low _ _ (by omega) HXW.out) 2 rfl) (And.intro (cell_blk (hF_16.low _ _ (by omega) HXW.out) 3 rfl) (And.intro (hF_16.cell HM.out Q1.out) (And.intro (hF_16.cell HM.out E10.out) (And.intro (hF_16.cell HM.out E11.out) (And.intro (hF_16.cell HM.out E12.out) (hF_16.cell HM.out E13.out))))))))
                  refine norm_ (a' := ?_) ?_ ?_
                  rotate_left
                  · simp only [putAll, Act.put, nrA, nrB, nrC]
                    rfl
                  refine one_ (i := 7) (N := some 96) (lb 22 130815) rfl rfl (by kernel_rfl) (by decide) (fun K hK => ?_)
                  refine value_ (w1 := ?_) (v := ?_) (by rfl) rfl ?_ ?_
                  rotate_left 2
                  · go_simp
                    constructor
                    · rfl
                    · rfl
                  have hN := OvF.k7 hF_16
                  refine hK.out _ _ ⟨cell_blk (hN.low _ _ (by omega) HBW.out) 2 rfl, cell_blk (hN.low _ _ (by omega) HBW.out) 3 rfl, cell_blk (hN.low _ _ (by omega) HXW.out) 2 rfl, cell_blk (hN.low _ _ (by omega) HXW.out) 3 rfl, hN.cell HM.out Q1.out, hN.cell HM.out E10.out, hN.cell HM.out E11.out, hN.cell HM.out E12.out, hN.cell HM.out E13.out⟩ (fun hHeld => ?_)
                  clear hK K
                  refine norm_ (a' := ?_) ?_ ?_
                  rotate_left
                  · show Act.put _ (some 96) _ = _
                    simp only [Act.put, nrA, nrB, nrC, i64_w, i32_w]
                    rfl
                  exact norm_ (by first | (simp only [putAll, Act.put, nrA, nrB, nrC]; done) | (simp only [putAll, Act.put, nrA, nrB, nrC]; rfl)) (hJ7_16 (_, .slice (some ⟨q16, 0, none⟩) 1 r16) _ ⟨⟨⟨_, _, rfl⟩, ⟨_, _, rfl⟩⟩, hN⟩)
              · skip
                rintro a7 wn ⟨hsh, hF_7⟩
                obtain ⟨q7, r7, rfl⟩ := hsh
                have hHeld := And.intro (cell_blk (hF_7.low _ _ (by omega) HBW.out) 2 rfl) (And.intro (cell_blk (hF_7.low _ _ (by omega) HBW.out) 3 rfl) (And.intro (cell_blk (hF_7.low _ _ (by omega) HXW.out) 2 rfl) (And.intro (cell_blk (hF_7.low _ _ (by omega) HXW.out) 3 rfl) (And.intro (hF_7.cell HM.out Q1.out) (And.intro (hF_7.cell HM.out E10.out) (And.intro (hF_7.cell HM.out E11.out) (And.intro (hF_7.cell HM.out E12.out) (hF_7.cell HM.out E13.out))))))))
                refine norm_ (a' := ?_) ?_ ?_
                rotate_left
                · simp only [putAll, Act.put, nrA, nrB, nrC]
                  rfl
                refine two_ (i := 8) (j := 16) (Ni := some 97) (Nj := some 105) (lb 22 65535) (lb 22 130815) rfl rfl rfl rfl (by kernel_rfl) (by decide) (by decide) (fun K hK => ?_) (fun K hK => ?_)
                · skip
                  refine step_snoc em_EC rfl _ _ _ rfl rfl _ _ rfl (OvF.snocK hF_7 HL.out.1 HL.out.2.1) ?_
                  intro g cap w2 hown2 hg2 hv2 hgg2
                  have hN := OvF.k8 hF_7 hown2 hg2 hgg2
                  refine hK.out _ _ ⟨cell_blk (hN.low _ _ (by omega) HBW.out) 2 rfl, cell_blk (hN.low _ _ (by omega) HBW.out) 3 rfl, cell_blk (hN.low _ _ (by omega) HXW.out) 2 rfl, cell_blk (hN.low _ _ (by omega) HXW.out) 3 rfl, hN.cell HM.out Q1.out, hN.cell HM.out E10.out, hN.cell HM.out E11.out, hN.cell HM.out E12.out, hN.cell HM.out E13.out⟩ (fun hHeld => ?_)
                  clear hK K
                  refine norm_ (a' := ?_) ?_ ?_
                  rotate_left
                  · show Act.put _ (some 97) _ = _
                    simp only [Act.put, nrA, nrB, nrC, i64_w, i32_w]
                    rfl
                  refine pure_ (i := 18) (N := some 107) (v := ?_) (a' := ?_) (lb 22 327679) rfl rfl (by kernel_rfl) (fun _ _ _ h => h) (Or.inl ⟨by rfl, ?_⟩) ?_ ?_
                  rotate_left
                  · intro w'
                    go_simp
                    with_reducible rfl
                  rotate_left
                  · simp only [Act.put, nrA, nrB, nrC, i64_w, i32_w]
                    rfl
                  exact norm_ (by first | (simp only [putAll, Act.put, nrA, nrB, nrC]; done) | (simp only [putAll, Act.put, nrA, nrB, nrC]; rfl)) (hJ7_8 (.slice (some ⟨q7, 0, none⟩) 1 r7, _) _ ⟨⟨⟨_, _, rfl⟩, ⟨_, _, _, rfl⟩⟩, hN⟩)
                · skip
                  refine value_ (w1 := ?_) (v := ?_) (by rfl) rfl ?_ ?_
                  rotate_left 2
                  · go_simp
                    constructor
                    · rfl
                    · rfl
                  have hN := OvF.k16 hF_7
                  refine hK.out _ _ ⟨cell_blk (hN.low _ _ (by omega) HBW.out) 2 rfl, cell_blk (hN.low _ _ (by omega) HBW.out) 3 rfl, cell_blk (hN.low _ _ (by omega) HXW.out) 2 rfl, cell_blk (hN.low _ _ (by omega) HXW.out) 3 rfl, hN.cell HM.out Q1.out, hN.cell HM.out E10.out, hN.cell HM.out E11.out, hN.cell HM.out E12.out, hN.cell HM.out E13.out⟩ (fun hHeld => ?_)
                  clear hK K
                  refine norm_ (a' := ?_) ?_ ?_
                  rotate_left
                  · show Act.put _ (some 105) _ = _
                    simp only [Act.put, nrA, nrB, nrC, i64_w, i32_w]
                    rfl
                  exact norm_ (by first | (simp only [putAll, Act.put, nrA, nrB, nrC]; done) | (simp only [putAll, Act.put, nrA, nrB, nrC]; rfl)) (hJ7_16 (.slice (some ⟨q7, 0, none⟩) 1 r7, _) _ ⟨⟨⟨_, _, rfl⟩, ⟨_, _, rfl⟩⟩, hN⟩)
            · skip
              rintro ⟨a7, a16⟩ wn ⟨hsh, hF_7_16⟩
              obtain ⟨⟨q7, r7, rfl⟩, ⟨q16, r16, rfl⟩⟩ := hsh
              have hHeld := And.intro (cell_blk (hF_7_16.low _ _ (by omega) HBW.out) 2 rfl) (And.intro (cell_blk (hF_7_16.low _ _ (by omega) HBW.out) 3 rfl) (And.intro (cell_blk (hF_7_16.low _ _ (by omega) HXW.out) 2 rfl) (And.intro (cell_blk (hF_7_16.low _ _ (by omega) HXW.out) 3 rfl) (And.intro (hF_7_16.cell HM.out Q1.out) (And.intro (hF_7_16.cell HM.out E10.out) (And.intro (hF_7_16.cell HM.out E11.out) (And.intro (hF_7_16.cell HM.out E12.out) (hF_7_16.cell HM.out E13.out))))))))
              refine norm_ (a' := ?_) ?_ ?_
              rotate_left
              · simp only [putAll, Act.put, nrA, nrB, nrC]
                rfl
              refine one_ (i := 8) (N := some 97) (lb 22 131071) rfl rfl (by kernel_rfl) (by decide) (fun K hK => ?_)
              refine step_snoc em_EC rfl _ _ _ rfl rfl _ _ rfl (OvF.snocK hF_7_16 HL.out.1 HL.out.2.1) ?_
              intro g cap w2 hown2 hg2 hv2 hgg2
              have hN := OvF.k8 hF_7_16 hown2 hg2 hgg2
              refine hK.out _ _ ⟨cell_blk (hN.low _ _ (by omega) HBW.out) 2 rfl, cell_blk (hN.low _ _ (by omega) HBW.out) 3 rfl, cell_blk (hN.low _ _ (by omega) HXW.out) 2 rfl, cell_blk (hN.low _ _ (by omega) HXW.out) 3 rfl, hN.cell HM.out Q1.out, hN.cell HM.out E10.out, hN.cell HM.out E11.out, hN.cell HM.out E12.out, hN.cell HM.out E13.out⟩ (fun hHeld => ?_)
              clear hK K
              refine norm_ (a' := ?_) ?_ ?_
              rotate_left
              · show Act.put _ (some 97) _ = _
                simp only [Act.put, nrA, nrB, nrC, i64_w, i32_w]
                rfl
              refine pure_ (i := 18) (N := some 107) (v := ?_) (a' := ?_) (lb 22 393215) rfl rfl (by kernel_rfl) (fun _ _ _ h => h) (Or.inl ⟨by rfl, ?_⟩) ?_ ?_
              rotate_left
              · intro w'
                go_simp
                with_reducible rfl
              rotate_left
              · simp only [Act.put, nrA, nrB, nrC, i64_w, i32_w]
                rfl
              exact norm_ (by first | (simp only [putAll, Act.put, nrA, nrB, nrC]; done) | (simp only [putAll, Act.put, nrA, nrB, nrC]; rfl)) (hJ7_8_16 (.slice (some ⟨q7, 0, none⟩) 1 r7, _, .slice (some ⟨q16, 0, none⟩) 1 r16) _ ⟨⟨⟨_, _, rfl⟩, ⟨_, _, _, rfl⟩, ⟨_, _, rfl⟩⟩, hN⟩)
          · skip
            rintro ⟨a7, a8⟩ wn ⟨hsh, hF_7_8⟩
            obtain ⟨⟨q7, r7, rfl⟩, ⟨q8, n8, r8, rfl⟩⟩ := hsh
            have hHeld := And.intro (cell_blk (hF_7_8.low _ _ (by omega) HBW.out) 2 rfl) (And.intro (cell_blk (hF_7_8.low _ _ (by omega) HBW.out) 3 rfl) (And.intro (cell_blk (hF_7_8.low _ _ (by omega) HXW.out) 2 rfl) (And.intro (cell_blk (hF_7_8.low _ _ (by omega) HXW.out) 3 rfl) (And.intro (hF_7_8.cell HM.out Q1.out) (And.intro (hF_7_8.cell HM.out E10.out) (And.intro (hF_7_8.cell HM.out E11.out) (And.intro (hF_7_8.cell HM.out E12.out) (hF_7_8.cell HM.out E13.out))))))))
            refine norm_ (a' := ?_) ?_ ?_
            rotate_left
            · simp only [putAll, Act.put, nrA, nrB, nrC]
              rfl
            refine one_ (i := 16) (N := some 105) (lb 22 393215) rfl rfl (by kernel_rfl) (by decide) (fun K hK => ?_)
            refine value_ (w1 := ?_) (v := ?_) (by rfl) rfl ?_ ?_
            rotate_left 2
            · go_simp
              constructor
              · rfl
              · rfl
            have hN := OvF.k16 hF_7_8
            refine hK.out _ _ ⟨cell_blk (hN.low _ _ (by omega) HBW.out) 2 rfl, cell_blk (hN.low _ _ (by omega) HBW.out) 3 rfl, cell_blk (hN.low _ _ (by omega) HXW.out) 2 rfl, cell_blk (hN.low _ _ (by omega) HXW.out) 3 rfl, hN.cell HM.out Q1.out, hN.cell HM.out E10.out, hN.cell HM.out E11.out, hN.cell HM.out E12.out, hN.cell HM.out E13.out⟩ (fun hHeld => ?_)
            clear hK K
            refine norm_ (a' := ?_) ?_ ?_
            rotate_left
            · show Act.put _ (some 105) _ = _
              simp only [Act.put, nrA, nrB, nrC, i64_w, i32_w]
              rfl
            exact norm_ (by first | (simp only [putAll, Act.put, nrA, nrB, nrC]; done) | (simp only [putAll, Act.put, nrA, nrB, nrC]; rfl)) (hJ7_8_16 (.slice (some ⟨q7, 0, none⟩) 1 r7, .slice (some ⟨q8, 0, none⟩) n8 r8, _) _ ⟨⟨⟨_, _, rfl⟩, ⟨_, _, _, rfl⟩, ⟨_, _, rfl⟩⟩, hN⟩)
        rintro ⟨a7, a8, a16⟩ wn ⟨hsh, hF_7_8_16⟩
        obtain ⟨⟨q7, r7, rfl⟩, ⟨q8, n8, r8, rfl⟩, ⟨q16, r16, rfl⟩⟩ := hsh
        have hHeld := And.intro (cell_blk (hF_7_8_16.low _ _ (by omega) HBW.out) 2 rfl) (And.intro (cell_blk (hF_7_8_16.low _ _ (by omega) HBW.out) 3 rfl) (And.intro (cell_blk (hF_7_8_16.low _ _ (by omega) HXW.out) 2 rfl) (And.intro (cell_blk (hF_7_8_16.low _ _ (by omega) HXW.out) 3 rfl) (And.intro (hF_7_8_16.cell HM.out Q1.out) (And.intro (hF_7_8_16.cell HM.out E10.out) (And.intro (hF_7_8_16.cell HM.out E11.out) (And.intro (hF_7_8_16.cell HM.out E12.out) (hF_7_8_16.cell HM.out E13.out))))))))
        refine norm_ (a' := ?_) ?_ ?_
        rotate_left
        · simp only [putAll, Act.put, nrA, nrB, nrC]
          rfl
        refine one_ (i := 17) (N := some 106) (lb 22 524287) rfl rfl (by kernel_rfl) (by decide) (fun K hK => ?_)
        refine step_snoc em_EC rfl _ _ _ rfl rfl _ _ rfl (OvF.snocV hF_7_8_16 rfl (by simp [Value.oneCell']) HL.out.2.2.1 HL.out.2.2.2) ?_
        intro g17 c17 w17 hown17 hg17 hv17 hgg17
        have hFE := OvF.k17 hF_7_8_16 hown17 hg17 hgg17
        refine hK.out _ _ ⟨cell_blk (hFE.low _ _ (by omega) HBW.out) 2 rfl, cell_blk (hFE.low _ _ (by omega) HBW.out) 3 rfl, cell_blk (hFE.low _ _ (by omega) HXW.out) 2 rfl, cell_blk (hFE.low _ _ (by omega) HXW.out) 3 rfl, hFE.cell HM.out Q1.out, hFE.cell HM.out E10.out, hFE.cell HM.out E11.out, hFE.cell HM.out E12.out, hFE.cell HM.out E13.out⟩ (fun hHeld => ?_)
        clear hK K
        refine norm_ (a' := ?_) ?_ ?_
        rotate_left
        · show Act.put _ (some 106) _ = _
          simp only [Act.put, nrA, nrB, nrC, i64_w, i32_w]
          rfl
        refine last_ (i := 19) (N := none) (lb 22 1048575) rfl rfl (by kernel_rfl) (by decide) (fun K hK => ?_)
        have hB5 := hFE.low _ _ (by omega) HBW.out
        have c3 := cell_blk hB5 2 rfl
        have f3 := froz_blk hB5 2
        refine skip_ (w1 := ?_) (by rfl) rfl ?_ ?_
        rotate_left
        · go_simp
          rfl
        refine hK.out _ _ ?_
        clear hK K
        refine pure_ (i := 20) (N := some 108) (v := ?_) (a' := ?_) (lb 22 2097151) rfl rfl (by kernel_rfl) (fun _ _ _ h => h) (Or.inl ⟨by rfl, ?_⟩) ?_ ?_
        rotate_left
        · intro w'
          go_simp
          with_reducible rfl
        rotate_left
        · simp only [Act.put, nrA, nrB, nrC, i64_w, i32_w]
          rfl
        refine last_ (i := 21) (N := none) (lb 22 4194303) rfl rfl (by kernel_rfl) (by decide) (fun K hK => ?_)
        have hB6 := set_blk hB5 2 (.slice (some ⟨q8, 0, none⟩) n8 r8)
        have c4 := cell_blk hB6 3 rfl
        have f4 := froz_blk hB5 3
        refine skip_ (w1 := ?_) (by rfl) rfl ?_ ?_
        rotate_left
        · go_simp
          rfl
        refine hK.out _ _ ?_
        clear hK K
        refine done_ (by kernel_rfl) ?_
        clear c3 f3 c4 f4
        go_wp2
        go_roundw
        case rel => exact ⟨i + 1, u.keys.length, out ++ [(v.keys[i], v.kids[i])], vcs ++ [_], _, _, by omega, by omega, by go_num, by go_num, ovF_end HW.out HC1.out hFE, ovI_v hI.out.2 HPV.out HPU.out H6.out H6'.out hi hik (fun h => absurd h (Nat.lt_irrefl _))⟩
        case measure => simp [intOf]; omega
    · obtain rfl : i = v.keys.length := by omega
      by_cases hj : j < u.keys.length
      · skip
        have hjk : j < u.kids.length := by have := HLU.out; omega
        obtain ⟨lq_, loff, rfl, q0⟩ := HKU.out.at hj
        obtain ⟨yb, yoff, kd2, tx2, ak2, nk2, ck2, a12, n12, c12, rfl, e0, e1, e2, e3, hkv⟩ := HRU.out.at hjk
        have Q2 := Lib.hid q0
        have E20 := Lib.hid e0
        have E21 := Lib.hid e1
        have E22 := Lib.hid e2
        have E23 := Lib.hid e3
        have HC2 := Lib.hid (show MV m [.int .i64 kd2, .string tx2, .slice ak2 nk2 ck2, .slice a12 n12 c12] u.kids[j] from hkv)
        have HQB2 := Lib.hid (show lq_ < w.heap.size + 4 from Nat.lt_of_lt_of_le (World.block_lt_of_cell? _ _ (HM.out _ _ q0)) (Nat.le_add_right _ _))
        have HEB2 := Lib.hid (show yb < w.heap.size + 4 from Nat.lt_of_lt_of_le (World.block_lt_of_cell? _ _ (HM.out _ _ e0)) (Nat.le_add_right _ _))
        clear q0 e0 e1 e2 e3 hkv
        have hje : ((j : Int) == (u.keys.length : Int)) = false := by simp; omega
        go_wp2_with fail
        have A0 := fun n os => (gr_grow wr n os).cell x2
        have A1 := fun n os => (gr_grow wr n os).cell y2
        have A2 := fun n os => (gr_grow wr n os).cell (HMR.out _ _ Q2.out)
        refine wp_region_quiet_grown hmix (by kernel_rfl) ?_
        repeat (go_big_quiet_step (fail))
        refine wpQuiet_nil ?_
        intro _ hw'
        obtain ⟨⟨nq, osq⟩, hw''⟩ := hw'
        subst hw''
        have HW := Lib.hid (OvM.bl hI.out.1 (gr_grow wr nq osq).below)
        have HMW := Lib.hid ((HMR.out).trans (mle_below (gr_grow wr nq osq).below))
        clear A0 A1 A2
        generalize grow (wr.drewN nq) osq = W at HW HMW ⊢
        have HXW := Lib.hid HW.out.2.1
        have HYW := Lib.hid HW.out.2.2.1
        have HBW := Lib.hid HW.out.2.2.2.2.1
        clear x0 x1 x2 x3 y0 y1 y2 y3 hje
        go_wp2_with fail
        have A0 := fun n os => (gr_grow W n os).cell (cell_blk HXW.out 2 rfl)
        have A1 := fun n os => (gr_grow W n os).cell (cell_blk HYW.out 2 rfl)
        have A2 := fun n os => (gr_grow W n os).cell (HMW.out _ _ Q2.out)
        refine wp_region_quiet_grown hmix (by kernel_rfl) ?_
        repeat (go_big_quiet_step (fail))
        refine wpQuiet_nil ?_
        intro _ hw'
        obtain ⟨⟨nq, osq⟩, hw''⟩ := hw'
        subst hw''
        have HU := Lib.hid (OvM.bl HW.out (gr_grow W nq osq).below)
        have HMU := Lib.hid ((HMW.out).trans (mle_below (gr_grow W nq osq).below))
        clear A0 A1 A2
        generalize grow (W.drewN nq) osq = U at HU HMU ⊢
        have HXU := Lib.hid HU.out.2.1
        have HYU := Lib.hid HU.out.2.2.1
        have HBU := Lib.hid HU.out.2.2.2.2.1
        go_wp2_with fail
        have HL := Lib.hid (show ((out.map fun p => [Value.string p.1]).length + 1) * 16 ≤ 140737488355328 ∧ (out.map fun p => [Value.string p.1]).length + 1 ≤ maxLen ∧ (vcs.length + 1) * 72 ≤ 140737488355328 ∧ vcs.length + 1 ≤ maxLen from by have h1 := HNV.out; have h2 := HNU.out; have h3 := HLV.out; have h4 := HLU.out; have h5 := hI.out.2.len; have h6 := hI.out.1.1; simp [maxLen]; omega)
        have hF_st := Lib.hid (ovF_start HU.out u.keys[j] [.int .i64 kd2, .string tx2, .slice ak2 nk2 ck2, .slice a12 n12 c12])
        refine start_ (n := 22) (S := fun w' => w'.cell? ⟨w.heap.size + 1 + 1 + 1, 2, none⟩ = some vk ∧ w'.cell? ⟨w.heap.size + 1 + 1 + 1, 3, none⟩ = some vv ∧ w'.cell? ⟨w.heap.size + 1, 2, none⟩ = some (.slice (some ⟨lq_, loff, none⟩) u.keys.length cku) ∧ w'.cell? ⟨w.heap.size + 1, 3, none⟩ = some (.slice (some ⟨yb, yoff, none⟩) u.kids.length c1u) ∧ w'.cell? ⟨lq_, loff + j, none⟩ = some (.string u.keys[j]) ∧ w'.cell? ⟨yb, yoff + j * 4, none⟩ = some (.int .i64 kd2) ∧ w'.cell? ⟨yb, yoff + j * 4 + 1, none⟩ = some (.string tx2) ∧ w'.cell? ⟨yb, yoff + j * 4 + 2, none⟩ = some (.slice ak2 nk2 ck2) ∧ w'.cell? ⟨yb, yoff + j * 4 + 3, none⟩ = some (.slice a12 n12 c12)) (ds := [19, 21]) (lb 22 0) (by kernel_rfl) rfl rfl ⟨cell_blk (hF_st.out.low _ _ (by omega) HBU.out) 2 rfl, cell_blk (hF_st.out.low _ _ (by omega) HBU.out) 3 rfl, cell_blk (hF_st.out.low _ _ (by omega) HYU.out) 2 rfl, cell_blk (hF_st.out.low _ _ (by omega) HYU.out) 3 rfl, hF_st.out.cell HM.out Q2.out, hF_st.out.cell HM.out E20.out, hF_st.out.cell HM.out E21.out, hF_st.out.cell HM.out E22.out, hF_st.out.cell HM.out E23.out⟩ (fun hHeld => ?_)
        refine pure_ (i := 0) (N := some 41) (v := ?_) (a' := ?_) (lb 22 1) rfl rfl (by kernel_rfl) (fun _ _ _ h => h) (Or.inl ⟨by rfl, ?_⟩) ?_ ?_
        rotate_left
        · intro w'
          go_simp
          with_reducible rfl
        rotate_left
        · simp only [Act.put, nrA, nrB, nrC, i64_w, i32_w]
          rfl
        refine pure_ (i := 2) (N := some 43) (v := ?_) (a' := ?_) (lb 22 5) rfl rfl (by kernel_rfl) (fun _ _ _ h => h) (Or.inl ⟨by rfl, ?_⟩) ?_ ?_
        rotate_left
        · intro w'
          go_simp
          with_reducible rfl
        rotate_left
        · simp only [Act.put, nrA, nrB, nrC, i64_w, i32_w]
          rfl
        refine pure_ (i := 4) (N := some 45) (v := ?_) (a' := ?_) (lb 22 21) rfl rfl (by kernel_rfl) (fun _ _ _ h => h) (Or.inl ⟨by rfl, ?_⟩) ?_ ?_
        rotate_left
        · intro w'
          go_simp
          with_reducible rfl
        rotate_left
        · simp only [Act.put, nrA, nrB, nrC, i64_w, i32_w]
          rfl
        refine pure_ (i := 9) (N := some 50) (v := ?_) (a' := ?_) (lb 22 533) rfl rfl (by kernel_rfl) (fun _ _ _ h => h) (Or.inl ⟨by rfl, ?_⟩) ?_ ?_
        rotate_left
        · intro w'
          go_simp
          with_reducible rfl
        rotate_left
        · simp only [Act.put, nrA, nrB, nrC, i64_w, i32_w]
          rfl
        refine pure_ (i := 11) (N := some 52) (v := ?_) (a' := ?_) (lb 22 2581) rfl rfl (by kernel_rfl) (fun _ _ _ h => h) (Or.inl ⟨by rfl, ?_⟩) ?_ ?_
        rotate_left
        · intro w'
          go_simp
          with_reducible rfl
        rotate_left
        · simp only [Act.put, nrA, nrB, nrC, i64_w, i32_w]
          rfl
        refine pure_ (i := 13) (N := some 54) (v := ?_) (a' := ?_) (lb 22 10773) rfl rfl (by kernel_rfl) (fun _ _ _ h => h) (Or.inl ⟨by rfl, ?_⟩) ?_ ?_
        rotate_left
        · intro w'
          go_simp
          with_reducible rfl
        rotate_left
        · simp only [Act.put, nrA, nrB, nrC, i64_w, i32_w]
          rfl
        refine take_ (i := 1) (N := some 42) (v := ?_) (a' := ?_) (lb 22 10775) rfl rfl (by kernel_rfl) (fun _ _ _ h => h) (Or.inl ⟨by rfl, ?_⟩) hHeld ?_ ?_
        rotate_left
        · rintro w' ⟨s0, s1, s2, s3, s4, s5, s6, s7, s8⟩
          go_simp
          with_reducible rfl
        rotate_left
        · simp only [Act.put, nrA, nrB, nrC, i64_w, i32_w]
          rfl
        refine take_ (i := 3) (N := some 44) (v := ?_) (a' := ?_) (lb 22 10783) rfl rfl (by kernel_rfl) (fun _ _ _ h => h) (Or.inl ⟨by rfl, ?_⟩) hHeld ?_ ?_
        rotate_left
        · rintro w' ⟨s0, s1, s2, s3, s4, s5, s6, s7, s8⟩
          go_simp
          with_reducible rfl
        rotate_left
        · simp only [Act.put, nrA, nrB, nrC, i64_w, i32_w]
          rfl
        refine pure_ (i := 5) (N := some 46) (v := ?_) (a' := ?_) (lb 22 10815) rfl rfl (by kernel_rfl) (fun _ _ _ h => h) (Or.inl ⟨by rfl, ?_⟩) ?_ ?_
        rotate_left
        · intro w'
          go_simp
          with_reducible rfl
        rotate_left
        · simp only [Act.put, nrA, nrB, nrC, i64_w, i32_w]
          rfl
        refine take_ (i := 6) (N := some 47) (v := ?_) (a' := ?_) (lb 22 10879) rfl rfl (by kernel_rfl) (fun _ _ _ h => h) (Or.inl ⟨by rfl, ?_⟩) hHeld ?_ ?_
        rotate_left
        · rintro w' ⟨s0, s1, s2, s3, s4, s5, s6, s7, s8⟩
          go_simp
          with_reducible rfl
        rotate_left
        · simp only [Act.put, nrA, nrB, nrC, i64_w, i32_w]
          rfl
        refine take_ (i := 10) (N := some 51) (v := ?_) (a' := ?_) (lb 22 11903) rfl rfl (by kernel_rfl) (fun _ _ _ h => h) (Or.inl ⟨by rfl, ?_⟩) hHeld ?_ ?_
        rotate_left
        · rintro w' ⟨s0, s1, s2, s3, s4, s5, s6, s7, s8⟩
          go_simp
          with_reducible rfl
        rotate_left
        · simp only [Act.put, nrA, nrB, nrC, i64_w, i32_w]
          rfl
        refine take_ (i := 12) (N := some 53) (v := ?_) (a' := ?_) (lb 22 15999) rfl rfl (by kernel_rfl) (fun _ _ _ h => h) (Or.inl ⟨by rfl, ?_⟩) hHeld ?_ ?_
        rotate_left
        · rintro w' ⟨s0, s1, s2, s3, s4, s5, s6, s7, s8⟩
          go_simp
          with_reducible rfl
        rotate_left
        · simp only [Act.put, nrA, nrB, nrC, i64_w, i32_w]
          rfl
        refine pure_ (i := 14) (N := some 55) (v := ?_) (a' := ?_) (lb 22 32383) rfl rfl (by kernel_rfl) (fun _ _ _ h => h) (Or.inl ⟨by rfl, ?_⟩) ?_ ?_
        rotate_left
        · intro w'
          go_simp
          with_reducible rfl
        rotate_left
        · simp only [Act.put, nrA, nrB, nrC, i64_w, i32_w]
          rfl
        refine take_ (i := 15) (N := some 56) (v := ?_) (a' := ?_) (lb 22 65151) rfl rfl (by kernel_rfl) (fun _ _ _ h => h) (Or.inl ⟨by rfl, ?_⟩) hHeld ?_ ?_
        rotate_left
        · rintro w' ⟨s0, s1, s2, s3, s4, s5, s6, s7, s8⟩
          go_simp
          with_reducible rfl
        rotate_left
        · simp only [Act.put, nrA, nrB, nrC, i64_w, i32_w]
          rfl
        refine join_ (σ := Value × Value × Value) 4 (lb 22 393215) (fun s_ => [(48, s_.1), (49, s_.2.1), (57, s_.2.2), (59, .pointer (some ⟨w.heap.size + 1 + 1 + 1, 2, none⟩))]) (fun s_ w' => ((∃ q r, s_.1 = .slice (some ⟨q, 0, none⟩) 1 r) ∧ (∃ q n r, s_.2.1 = .slice (some ⟨q, 0, none⟩) n r) ∧ (∃ q r, s_.2.2 = .slice (some ⟨q, 0, none⟩) 1 r)) ∧ OvF w (w.heap.size + 4) u.keys[j] [.int .i64 kd2, .string tx2, .slice ak2 nk2 ck2, .slice a12 n12 c12] s_.2.1 ((out.map fun p => [Value.string p.1]) ++ [[.string u.keys[j]]]) vv vcs none (some s_.2.2) U w') ?_ ?_
        rotate_left
        · intro hJ7_8_16
          refine join_ (σ := Value × Value) 5 (lb 22 327679) (fun s_ => [(48, s_.1), (49, s_.2), (59, .pointer (some ⟨w.heap.size + 1 + 1 + 1, 2, none⟩))]) (fun s_ w' => ((∃ q r, s_.1 = .slice (some ⟨q, 0, none⟩) 1 r) ∧ (∃ q n r, s_.2 = .slice (some ⟨q, 0, none⟩) n r)) ∧ OvF w (w.heap.size + 4) u.keys[j] [.int .i64 kd2, .string tx2, .slice ak2 nk2 ck2, .slice a12 n12 c12] s_.2 ((out.map fun p => [Value.string p.1]) ++ [[.string u.keys[j]]]) vv vcs none none U w') ?_ ?_
          rotate_left
          · intro hJ7_8
            refine join_ (σ := Value × Value) 6 (lb 22 130815) (fun s_ => [(48, s_.1), (57, s_.2)]) (fun s_ w' => ((∃ q r, s_.1 = .slice (some ⟨q, 0, none⟩) 1 r) ∧ (∃ q r, s_.2 = .slice (some ⟨q, 0, none⟩) 1 r)) ∧ OvF w (w.heap.size + 4) u.keys[j] [.int .i64 kd2, .string tx2, .slice ak2 nk2 ck2, .slice a12 n12 c12] vk (out.map fun p => [Value.string p.1]) vv vcs (some s_.1) (some s_.2) U w') ?_ ?_
            rotate_left
            · intro hJ7_16
              refine join_ (σ := Value) 7 (lb 22 65279) (fun s_ => [(48, s_)]) (fun s_ w' => ((∃ q r, s_ = .slice (some ⟨q, 0, none⟩) 1 r)) ∧ OvF w (w.heap.size + 4) u.keys[j] [.int .i64 kd2, .string tx2, .slice ak2 nk2 ck2, .slice a12 n12 c12] vk (out.map fun p => [Value.string p.1]) vv vcs (some s_) none U w') ?_ ?_
              rotate_left
              · intro hJ7
                refine join_ (σ := Value) 7 (lb 22 130687) (fun s_ => [(57, s_)]) (fun s_ w' => ((∃ q r, s_ = .slice (some ⟨q, 0, none⟩) 1 r)) ∧ OvF w (w.heap.size + 4) u.keys[j] [.int .i64 kd2, .string tx2, .slice ak2 nk2 ck2, .slice a12 n12 c12] vk (out.map fun p => [Value.string p.1]) vv vcs none (some s_) U w') ?_ ?_
                rotate_left
                · intro hJ16
                  refine two_ (i := 7) (j := 16) (Ni := some 48) (Nj := some 57) (lb 22 65279) (lb 22 130687) rfl rfl rfl rfl (by kernel_rfl) (by decide) (by decide) (fun K hK => ?_) (fun K hK => ?_)
                  · skip
                    refine value_ (w1 := ?_) (v := ?_) (by rfl) rfl ?_ ?_
                    rotate_left 2
                    · go_simp
                      constructor
                      · rfl
                      · rfl
                    have hN := OvF.k7 hF_st.out
                    refine hK.out _ _ ⟨cell_blk (hN.low _ _ (by omega) HBU.out) 2 rfl, cell_blk (hN.low _ _ (by omega) HBU.out) 3 rfl, cell_blk (hN.low _ _ (by omega) HYU.out) 2 rfl, cell_blk (hN.low _ _ (by omega) HYU.out) 3 rfl, hN.cell HM.out Q2.out, hN.cell HM.out E20.out, hN.cell HM.out E21.out, hN.cell HM.out E22.out, hN.cell HM.out E23.out⟩ (fun hHeld => ?_)
                    clear hK K
                    refine norm_ (a' := ?_) ?_ ?_
                    rotate_left
                    · show Act.put _ (some 48) _ = _
                      simp only [Act.put, nrA, nrB, nrC, i64_w, i32_w]
                      rfl
                    exact norm_ (by first | (simp only [putAll, Act.put, nrA, nrB, nrC]; done) | (simp only [putAll, Act.put, nrA, nrB, nrC]; rfl)) (hJ7 _ _ ⟨⟨_, _, rfl⟩, hN⟩)
                  · skip
                    refine value_ (w1 := ?_) (v := ?_) (by rfl) rfl ?_ ?_
                    rotate_left 2
                    · go_simp
                      constructor
                      · rfl
                      · rfl
                    have hN := OvF.k16 hF_st.out
                    refine hK.out _ _ ⟨cell_blk (hN.low _ _ (by omega) HBU.out) 2 rfl, cell_blk (hN.low _ _ (by omega) HBU.out) 3 rfl, cell_blk (hN.low _ _ (by omega) HYU.out) 2 rfl, cell_blk (hN.low _ _ (by omega) HYU.out) 3 rfl, hN.cell HM.out Q2.out, hN.cell HM.out E20.out, hN.cell HM.out E21.out, hN.cell HM.out E22.out, hN.cell HM.out E23.out⟩ (fun hHeld => ?_)
                    clear hK K
                    refine norm_ (a' := ?_) ?_ ?_
                    rotate_left
                    · show Act.put _ (some 57) _ = _
                      simp only [Act.put, nrA, nrB, nrC, i64_w, i32_w]
                      rfl
                    exact norm_ (by first | (simp only [putAll, Act.put, nrA, nrB, nrC]; done) | (simp only [putAll, Act.put, nrA, nrB, nrC]; rfl)) (hJ16 _ _ ⟨⟨_, _, rfl⟩, hN⟩)
                · skip
                  rintro a16 wn ⟨hsh, hF_16⟩
                  obtain ⟨q16, r16, rfl⟩ := hsh
                  have hHeld := And.intro (cell_blk (hF_16.low _ _ (by omega) HBU.out) 2 rfl) (And.intro (cell_blk (hF_16.low _ _ (by omega) HBU.out) 3 rfl) (And.intro (cell_blk (hF_16.low _ _ (by omega) HYU.out) 2 rfl) (And.intro (cell_blk (hF_16.low _ _ (by omega) HYU.out) 3 rfl) (And.intro (hF_16.cell HM.out Q2.out) (And.intro (hF_16.cell HM.out E20.out) (And.intro (hF_16.cell HM.out E21.out) (And.intro (hF_16.cell HM.out E22.out) (hF_16.cell HM.out E23.out))))))))
                  refine norm_ (a' := ?_) ?_ ?_
                  rotate_left
                  · simp only [putAll, Act.put, nrA, nrB, nrC]
                    rfl
                  refine one_ (i := 7) (N := some 48) (lb 22 130815) rfl rfl (by kernel_rfl) (by decide) (fun K hK => ?_)
                  refine value_ (w1 := ?_) (v := ?_) (by rfl) rfl ?_ ?_
                  rotate_left 2
                  · go_simp
                    constructor
                    · rfl
                    · rfl
                  have hN := OvF.k7 hF_16
                  refine hK.out _ _ ⟨cell_blk (hN.low _ _ (by omega) HBU.out) 2 rfl, cell_blk (hN.low _ _ (by omega) HBU.out) 3 rfl, cell_blk (hN.low _ _ (by omega) HYU.out) 2 rfl, cell_blk (hN.low _ _ (by omega) HYU.out) 3 rfl, hN.cell HM.out Q2.out, hN.cell HM.out E20.out, hN.cell HM.out E21.out, hN.cell HM.out E22.out, hN.cell HM.out E23.out⟩ (fun hHeld => ?_)
                  clear hK K
                  refine norm_ (a' := ?_) ?_ ?_
                  rotate_left
                  · show Act.put _ (some 48) _ = _
                    simp only [Act.put, nrA, nrB, nrC, i64_w, i32_w]
                    rfl
                  exact norm_ (by first | (simp only [putAll, Act.put, nrA, nrB, nrC]; done) | (simp only [putAll, Act.put, nrA, nrB, nrC]; rfl)) (hJ7_16 (_, .slice (some ⟨q16, 0, none⟩) 1 r16) _ ⟨⟨⟨_, _, rfl⟩, ⟨_, _, rfl⟩⟩, hN⟩)
              · skip
                rintro a7 wn ⟨hsh, hF_7⟩
                obtain ⟨q7, r7, rfl⟩ := hsh
                have hHeld := And.intro (cell_blk (hF_7.low _ _ (by omega) HBU.out) 2 rfl) (And.intro (cell_blk (hF_7.low _ _ (by omega) HBU.out) 3 rfl) (And.intro (cell_blk (hF_7.low _ _ (by omega) HYU.out) 2 rfl) (And.intro (cell_blk (hF_7.low _ _ (by omega) HYU.out) 3 rfl) (And.intro (hF_7.cell HM.out Q2.out) (And.intro (hF_7.cell HM.out E20.out) (And.intro (hF_7.cell HM.out E21.out) (And.intro (hF_7.cell HM.out E22.out) (hF_7.cell HM.out E23.out))))))))
                refine norm_ (a' := ?_) ?_ ?_
                rotate_left
                · simp only [putAll, Act.put, nrA, nrB, nrC]
                  rfl
                refine two_ (i := 8) (j := 16) (Ni := some 49) (Nj := some 57) (lb 22 65535) (lb 22 130815) rfl rfl rfl rfl (by kernel_rfl) (by decide) (by decide) (fun K hK => ?_) (fun K hK => ?_)
                · skip
                  refine step_snoc em_EC rfl _ _ _ rfl rfl _ _ rfl (OvF.snocK hF_7 HL.out.1 HL.out.2.1) ?_
                  intro g cap w2 hown2 hg2 hv2 hgg2
                  have hN := OvF.k8 hF_7 hown2 hg2 hgg2
                  refine hK.out _ _ ⟨cell_blk (hN.low _ _ (by omega) HBU.out) 2 rfl, cell_blk (hN.low _ _ (by omega) HBU.out) 3 rfl, cell_blk (hN.low _ _ (by omega) HYU.out) 2 rfl, cell_blk (hN.low _ _ (by omega) HYU.out) 3 rfl, hN.cell HM.out Q2.out, hN.cell HM.out E20.out, hN.cell HM.out E21.out, hN.cell HM.out E22.out, hN.cell HM.out E23.out⟩ (fun hHeld => ?_)
                  clear hK K
                  refine norm_ (a' := ?_) ?_ ?_
                  rotate_left
                  · show Act.put _ (some 49) _ = _
                    simp only [Act.put, nrA, nrB, nrC, i64_w, i32_w]
                    rfl
                  refine pure_ (i := 18) (N := some 59) (v := ?_) (a' := ?_) (lb 22 327679) rfl rfl (by kernel_rfl) (fun _ _ _ h => h) (Or.inl ⟨by rfl, ?_⟩) ?_ ?_
                  rotate_left
                  · intro w'
                    go_simp
                    with_reducible rfl
                  rotate_left
                  · simp only [Act.put, nrA, nrB, nrC, i64_w, i32_w]
                    rfl
                  exact norm_ (by first | (simp only [putAll, Act.put, nrA, nrB, nrC]; done) | (simp only [putAll, Act.put, nrA, nrB, nrC]; rfl)) (hJ7_8 (.slice (some ⟨q7, 0, none⟩) 1 r7, _) _ ⟨⟨⟨_, _, rfl⟩, ⟨_, _, _, rfl⟩⟩, hN⟩)
                · skip
                  refine value_ (w1 := ?_) (v := ?_) (by rfl) rfl ?_ ?_
                  rotate_left 2
                  · go_simp
                    constructor
                    · rfl
                    · rfl
                  have hN := OvF.k16 hF_7
                  refine hK.out _ _ ⟨cell_blk (hN.low _ _ (by omega) HBU.out) 2 rfl, cell_blk (hN.low _ _ (by omega) HBU.out) 3 rfl, cell_blk (hN.low _ _ (by omega) HYU.out) 2 rfl, cell_blk (hN.low _ _ (by omega) HYU.out) 3 rfl, hN.cell HM.out Q2.out, hN.cell HM.out E20.out, hN.cell HM.out E21.out, hN.cell HM.out E22.out, hN.cell HM.out E23.out⟩ (fun hHeld => ?_)
                  clear hK K
                  refine norm_ (a' := ?_) ?_ ?_
                  rotate_left
                  · show Act.put _ (some 57) _ = _
                    simp only [Act.put, nrA, nrB, nrC, i64_w, i32_w]
                    rfl
                  exact norm_ (by first | (simp only [putAll, Act.put, nrA, nrB, nrC]; done) | (simp only [putAll, Act.put, nrA, nrB, nrC]; rfl)) (hJ7_16 (.slice (some ⟨q7, 0, none⟩) 1 r7, _) _ ⟨⟨⟨_, _, rfl⟩, ⟨_, _, rfl⟩⟩, hN⟩)
            · skip
              rintro ⟨a7, a16⟩ wn ⟨hsh, hF_7_16⟩
              obtain ⟨⟨q7, r7, rfl⟩, ⟨q16, r16, rfl⟩⟩ := hsh
              have hHeld := And.intro (cell_blk (hF_7_16.low _ _ (by omega) HBU.out) 2 rfl) (And.intro (cell_blk (hF_7_16.low _ _ (by omega) HBU.out) 3 rfl) (And.intro (cell_blk (hF_7_16.low _ _ (by omega) HYU.out) 2 rfl) (And.intro (cell_blk (hF_7_16.low _ _ (by omega) HYU.out) 3 rfl) (And.intro (hF_7_16.cell HM.out Q2.out) (And.intro (hF_7_16.cell HM.out E20.out) (And.intro (hF_7_16.cell HM.out E21.out) (And.intro (hF_7_16.cell HM.out E22.out) (hF_7_16.cell HM.out E23.out))))))))
              refine norm_ (a' := ?_) ?_ ?_
              rotate_left
              · simp only [putAll, Act.put, nrA, nrB, nrC]
                rfl
              refine one_ (i := 8) (N := some 49) (lb 22 131071) rfl rfl (by kernel_rfl) (by decide) (fun K hK => ?_)
              refine step_snoc em_EC rfl _ _ _ rfl rfl _ _ rfl (OvF.snocK hF_7_16 HL.out.1 HL.out.2.1) ?_
              intro g cap w2 hown2 hg2 hv2 hgg2
              have hN := OvF.k8 hF_7_16 hown2 hg2 hgg2
              refine hK.out _ _ ⟨cell_blk (hN.low _ _ (by omega) HBU.out) 2 rfl, cell_blk (hN.low _ _ (by omega) HBU.out) 3 rfl, cell_blk (hN.low _ _ (by omega) HYU.out) 2 rfl, cell_blk (hN.low _ _ (by omega) HYU.out) 3 rfl, hN.cell HM.out Q2.out, hN.cell HM.out E20.out, hN.cell HM.out E21.out, hN.cell HM.out E22.out, hN.cell HM.out E23.out⟩ (fun hHeld => ?_)
              clear hK K
              refine norm_ (a' := ?_) ?_ ?_
              rotate_left
              · show Act.put _ (some 49) _ = _
                simp only [Act.put, nrA, nrB, nrC, i64_w, i32_w]
                rfl
              refine pure_ (i := 18) (N := some 59) (v := ?_) (a' := ?_) (lb 22 393215) rfl rfl (by kernel_rfl) (fun _ _ _ h => h) (Or.inl ⟨by rfl, ?_⟩) ?_ ?_
              rotate_left
              · intro w'
                go_simp
                with_reducible rfl
              rotate_left
              · simp only [Act.put, nrA, nrB, nrC, i64_w, i32_w]
                rfl
              exact norm_ (by first | (simp only [putAll, Act.put, nrA, nrB, nrC]; done) | (simp only [putAll, Act.put, nrA, nrB, nrC]; rfl)) (hJ7_8_16 (.slice (some ⟨q7, 0, none⟩) 1 r7, _, .slice (some ⟨q16, 0, none⟩) 1 r16) _ ⟨⟨⟨_, _, rfl⟩, ⟨_, _, _, rfl⟩, ⟨_, _, rfl⟩⟩, hN⟩)
          · skip
            rintro ⟨a7, a8⟩ wn ⟨hsh, hF_7_8⟩
            obtain ⟨⟨q7, r7, rfl⟩, ⟨q8, n8, r8, rfl⟩⟩ := hsh
            have hHeld := And.intro (cell_blk (hF_7_8.low _ _ (by omega) HBU.out) 2 rfl) (And.intro (cell_blk (hF_7_8.low _ _ (by omega) HBU.out) 3 rfl) (And.intro (cell_blk (hF_7_8.low _ _ (by omega) HYU.out) 2 rfl) (And.intro (cell_blk (hF_7_8.low _ _ (by omega) HYU.out) 3 rfl) (And.intro (hF_7_8.cell HM.out Q2.out) (And.intro (hF_7_8.cell HM.out E20.out) (And.intro (hF_7_8.cell HM.out E21.out) (And.intro (hF_7_8.cell HM.out E22.out) (hF_7_8.cell HM.out E23.out))))))))
            refine norm_ (a' := ?_) ?_ ?_
            rotate_left
            · simp only [putAll, Act.put, nrA, nrB, nrC]
              rfl
            refine one_ (i := 16) (N := some 57) (lb 22 393215) rfl rfl (by kernel_rfl) (by decide) (fun K hK => ?_)
            refine value_ (w1 := ?_) (v := ?_) (by rfl) rfl ?_ ?_
            rotate_left 2
            · go_simp
              constructor
              · rfl
              · rfl
            have hN := OvF.k16 hF_7_8
            refine hK.out _ _ ⟨cell_blk (hN.low _ _ (by omega) HBU.out) 2 rfl, cell_blk (hN.low _ _ (by omega) HBU.out) 3 rfl, cell_blk (hN.low _ _ (by omega) HYU.out) 2 rfl, cell_blk (hN.low _ _ (by omega) HYU.out) 3 rfl, hN.cell HM.out Q2.out, hN.cell HM.out E20.out, hN.cell HM.out E21.out, hN.cell HM.out E22.out, hN.cell HM.out E23.out⟩ (fun hHeld => ?_)
            clear hK K
            refine norm_ (a' := ?_) ?_ ?_
            rotate_left
            · show Act.put _ (some 57) _ = _
              simp only [Act.put, nrA, nrB, nrC, i64_w, i32_w]
              rfl
            exact norm_ (by first | (simp only [putAll, Act.put, nrA, nrB, nrC]; done) | (simp only [putAll, Act.put, nrA, nrB, nrC]; rfl)) (hJ7_8_16 (.slice (some ⟨q7, 0, none⟩) 1 r7, .slice (some ⟨q8, 0, none⟩) n8 r8, _) _ ⟨⟨⟨_, _, rfl⟩, ⟨_, _, _, rfl⟩, ⟨_, _, rfl⟩⟩, hN⟩)
        rintro ⟨a7, a8, a16⟩ wn ⟨hsh, hF_7_8_16⟩
        obtain ⟨⟨q7, r7, rfl⟩, ⟨q8, n8, r8, rfl⟩, ⟨q16, r16, rfl⟩⟩ := hsh
        have hHeld := And.intro (cell_blk (hF_7_8_16.low _ _ (by omega) HBU.out) 2 rfl) (And.intro (cell_blk (hF_7_8_16.low _ _ (by omega) HBU.out) 3 rfl) (And.intro (cell_blk (hF_7_8_16.low _ _ (by omega) HYU.out) 2 rfl) (And.intro (cell_blk (hF_7_8_16.low _ _ (by omega) HYU.out) 3 rfl) (And.intro (hF_7_8_16.cell HM.out Q2.out) (And.intro (hF_7_8_16.cell HM.out E20.out) (And.intro (hF_7_8_16.cell HM.out E21.out) (And.intro (hF_7_8_16.cell HM.out E22.out) (hF_7_8_16.cell HM.out E23.out))))))))
        refine norm_ (a' := ?_) ?_ ?_
        rotate_left
        · simp only [putAll, Act.put, nrA, nrB, nrC]
          rfl
        refine one_ (i := 17) (N := some 58) (lb 22 524287) rfl rfl (by kernel_rfl) (by decide) (fun K hK => ?_)
        refine step_snoc em_EC rfl _ _ _ rfl rfl _ _ rfl (OvF.snocV hF_7_8_16 rfl (by simp [Value.oneCell']) HL.out.2.2.1 HL.out.2.2.2) ?_
        intro g17 c17 w17 hown17 hg17 hv17 hgg17
        have hFE := OvF.k17 hF_7_8_16 hown17 hg17 hgg17
        refine hK.out _ _ ⟨cell_blk (hFE.low _ _ (by omega) HBU.out) 2 rfl, cell_blk (hFE.low _ _ (by omega) HBU.out) 3 rfl, cell_blk (hFE.low _ _ (by omega) HYU.out) 2 rfl, cell_blk (hFE.low _ _ (by omega) HYU.out) 3 rfl, hFE.cell HM.out Q2.out, hFE.cell HM.out E20.out, hFE.cell HM.out E21.out, hFE.cell HM.out E22.out, hFE.cell HM.out E23.out⟩ (fun hHeld => ?_)
        clear hK K
        refine norm_ (a' := ?_) ?_ ?_
        rotate_left
        · show Act.put _ (some 58) _ = _
          simp only [Act.put, nrA, nrB, nrC, i64_w, i32_w]
          rfl
        refine last_ (i := 19) (N := none) (lb 22 1048575) rfl rfl (by kernel_rfl) (by decide) (fun K hK => ?_)
        have hB5 := hFE.low _ _ (by omega) HBU.out
        have c3 := cell_blk hB5 2 rfl
        have f3 := froz_blk hB5 2
        refine skip_ (w1 := ?_) (by rfl) rfl ?_ ?_
        rotate_left
        · go_simp
          rfl
        refine hK.out _ _ ?_
        clear hK K
        refine pure_ (i := 20) (N := some 60) (v := ?_) (a' := ?_) (lb 22 2097151) rfl rfl (by kernel_rfl) (fun _ _ _ h => h) (Or.inl ⟨by rfl, ?_⟩) ?_ ?_
        rotate_left
        · intro w'
          go_simp
          with_reducible rfl
        rotate_left
        · simp only [Act.put, nrA, nrB, nrC, i64_w, i32_w]
          rfl
        refine last_ (i := 21) (N := none) (lb 22 4194303) rfl rfl (by kernel_rfl) (by decide) (fun K hK => ?_)
        have hB6 := set_blk hB5 2 (.slice (some ⟨q8, 0, none⟩) n8 r8)
        have c4 := cell_blk hB6 3 rfl
        have f4 := froz_blk hB5 3
        refine skip_ (w1 := ?_) (by rfl) rfl ?_ ?_
        rotate_left
        · go_simp
          rfl
        refine hK.out _ _ ?_
        clear hK K
        refine done_ (by kernel_rfl) ?_
        clear c3 f3 c4 f4
        go_wp2
        go_roundw
        case rel => exact ⟨v.keys.length, j + 1, out ++ [(u.keys[j], u.kids[j])], vcs ++ [_], _, _, by omega, by omega, by go_num, by go_num, ovF_end HU.out HC2.out hFE, ovI_u hI.out.2 HPV.out HPU.out H6.out H6'.out hj hjk (fun h => absurd h (Nat.lt_irrefl _))⟩
        case measure => simp [intOf]; omega
      · obtain rfl : j = u.keys.length := by omega
        obtain ⟨ak, ck, a1, c1, rfl, rfl, hmv⟩ := ov_end hI.out.1 (HLO.out.mono (by omega))
        have HMV := Lib.hid hmv
        obtain ⟨z0, z1, z2, z3⟩ := cells4 hI.out.1.2.2.2.2.1
        obtain ⟨r0, r1, r2, r3⟩ := cells4 hI.out.1.2.2.2.1
        have fr' := froz_blk hI.out.1.2.2.2.1
        clear hmv
        go_wp2
        refine bodyPost_ret (v := .agg #[.int .i64 6, .string ⟨#[]⟩, .slice ak out.length ck, .slice a1 out.length c1]) (by simp [results, Tryz.results28, go_sem, r0, r1, r2, r3, fr']) rfl ⟨out, _, _, _, _, _, _, rfl, hI.out.2, ?_, ?_⟩
        · refine HMV.out.mono (fr_deep HLO.out (Nat.le_add_right _ 4) (fun k e => by cases e) (fun k h1 h2 _ => ?_) (.inl rfl))
          repeat rw [Below.heap_setCell _ _ _ k (show k ≠ w.heap.size + 1 + 1 from by omega)]
        · have hle : w.heap.size ≤ w.heap.size + 1 + 1 := by omega
          exact (((hI.out.1.2.2.2.2.2.2.2.2.2.1.setCell hle _).setCell hle _).setCell hle _).setCell hle _
end Go.Proofs.YtaglgokeejjagaaGreat
