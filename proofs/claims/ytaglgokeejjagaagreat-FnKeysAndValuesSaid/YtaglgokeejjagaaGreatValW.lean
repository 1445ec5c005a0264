/- 'value' lays a value as the package takes it. -/
import Derived.Test.YtaglgokeejjagaaGreatAnyB
import Derived.Sort.Walk0
namespace Go.Proofs.YtaglgokeejjagaaGreat
set_option linter.unusedVariables false
set_option linter.unusedSimpArgs false
open Go.RowKit Go.Sort Go.Maps

theorem less_iff {a b : ByteArray} : Less a b ↔ a.toList < b.toList := by unfold Less; rw [bytesLess_eq]; simp
theorem less_trans {a b c : ByteArray} (h : Less a b) (k : Less b c) : Less a c := less_iff.2 (List.lt_trans (less_iff.1 h) (less_iff.1 k))
theorem less_irrefl {a : ByteArray} : ¬ Less a a := fun h => List.lt_irrefl _ (less_iff.1 h)
theorem chain_less {ks : List ByteArray} (h : ∀ i (h : i + 1 < ks.length), Less (ks[i]'(Nat.lt_of_succ_lt h)) ks[i + 1]) : ∀ (i j : Nat) (hij : i < j) (hj : j < ks.length), Less (ks[i]'(Nat.lt_trans hij hj)) ks[j] := by
  intro i j hij
  induction j with
  | zero => omega
  | succ j ih =>
    intro hj
    by_cases e : i = j
    · subst e; exact h i hj
    · exact less_trans (ih (by omega) (by omega)) (h j hj)
theorem bl_grownBy {a b : World} (h : Below a.heap.size a b) : a.grownBy b none := ⟨h.os, h.tape, h.output, h.size, fun i hi _ => h.block i hi⟩
theorem WV_key {t : Vl} {k : ByteArray} (h : k ∈ t.keys) : k.size ≤ WV t := by
  have := le_sum ByteArray.size h
  rw [WV_eq]; omega

theorem PV.kid {t : Vl} (h : PV t) {i : Nat} (hi : i < t.kids.length) : PV t.kids[i] := by cases t; exact h.out.2.2.2.2.2.2.2 i hi

def VaP (t : Vl) (w : World) (e : Ending) (w' : World) : Prop := ∃ x, e = .returned x ∧ RA (vwb w.heap.size w' none) x t ∧ Below w.heap.size w w'
def VaOk (t : Vl) : Prop := ∀ (m : Mem) (kd : Int) (tx : ByteArray) (ak : Option Addr) (nk ck : Nat) (a1 : Option Addr) (n1 c1 : Nat) (w : World), PV t → WV t ≤ 5000 → MV m (vlCells kd tx ak nk ck a1 n1 c1) t → MLe m w.cell? →
    Calls Tryz.prog 47 #[.agg #[.int .i64 kd, .string tx, .slice ak nk ck, .slice a1 n1 c1]] w (VaP t w)

section
variable {tx : ByteArray} {ks : List ByteArray} {kids : List Vl} {m : Mem} {ak : Option Addr} {ck : Nat} {a1 : Option Addr} {c1 : Nat} {w : World}
set_option maxHeartbeats 2000000 in
set_option maxRecDepth 100000 in
theorem va_0 : Calls Tryz.prog 47 #[.agg #[.int .i64 0, .string tx, .slice ak ks.length ck, .slice a1 kids.length c1]] w (VaP (.mk 0 tx ks kids) w) := by
  go_enter Tryz.func47, Tryz.ntmps47
  go_wp2
  go_ret
  exact ⟨_, rfl, .null rfl, (Below.refl _ _).alloc (Nat.le_refl _) _⟩
set_option maxHeartbeats 2000000 in
set_option maxRecDepth 100000 in
theorem va_1 : Calls Tryz.prog 47 #[.agg #[.int .i64 1, .string tx, .slice ak ks.length ck, .slice a1 kids.length c1]] w (VaP (.mk 1 tx ks kids) w) := by
  go_enter Tryz.func47, Tryz.ntmps47
  go_wp2
  go_ret
  exact ⟨_, rfl, .ff rfl, (Below.refl _ _).alloc (Nat.le_refl _) _⟩
set_option maxHeartbeats 2000000 in
set_option maxRecDepth 100000 in
theorem va_2 : Calls Tryz.prog 47 #[.agg #[.int .i64 2, .string tx, .slice ak ks.length ck, .slice a1 kids.length c1]] w (VaP (.mk 2 tx ks kids) w) := by
  go_enter Tryz.func47, Tryz.ntmps47
  go_wp2
  go_ret
  exact ⟨_, rfl, .tt rfl, (Below.refl _ _).alloc (Nat.le_refl _) _⟩
set_option maxHeartbeats 2000000 in
set_option maxRecDepth 100000 in
theorem va_3 : Calls Tryz.prog 47 #[.agg #[.int .i64 3, .string tx, .slice ak ks.length ck, .slice a1 kids.length c1]] w (VaP (.mk 3 tx ks kids) w) := by
  go_enter Tryz.func47, Tryz.ntmps47
  go_wp2
  go_ret
  exact ⟨_, rfl, .num (t := .mk 3 tx ks kids) rfl, (Below.refl _ _).alloc (Nat.le_refl _) _⟩
set_option maxHeartbeats 2000000 in
set_option maxRecDepth 100000 in
theorem va_4 : Calls Tryz.prog 47 #[.agg #[.int .i64 4, .string tx, .slice ak ks.length ck, .slice a1 kids.length c1]] w (VaP (.mk 4 tx ks kids) w) := by
  go_enter Tryz.func47, Tryz.ntmps47
  go_wp2
  go_ret
  exact ⟨_, rfl, .str (t := .mk 4 tx ks kids) rfl, (Below.refl _ _).alloc (Nat.le_refl _) _⟩

theorem RA.shape {h : Hp} {v : Value} {t : Vl} (r : RA h v t) : v = .nilIface ∨ ∃ T y, v = .iface T y := by
  cases r
  · exact .inl rfl
  all_goals exact .inr ⟨_, _, rfl⟩

/-- The blocks of the elements before, and of the new one, behind an append. -/
theorem vwb_snoc_old {B : Nat} {wr w1 w2 : World} {o o2 : Obj} {r : Option Nat} {g' : Nat} (hbl : Below (wr.alloc o).heap.size (wr.alloc o) w1) (hg : (w1.alloc o2).grownBy w2 r) (hgg : r = some g' ∨ g' = (w1.alloc o2).heap.size) : HLe (vwb B wr r) (vwb B w2 (some g')) :=
  vwb_step (Nat.le_refl _) (fun k h1 h2 h3 => by
    have s1 := hbl.size
    simp at s1
    have e1 : (wr.alloc o).heap[k]? = wr.heap[k]? := Below.heap_alloc wr o k h2
    have e2 : w1.heap[k]? = (wr.alloc o).heap[k]? := hbl.block k (by simp; omega)
    have e3 : (w1.alloc o2).heap[k]? = w1.heap[k]? := Below.heap_alloc w1 o2 k (by omega)
    rw [hg.block k (by simp; omega) h3, e3, e2, e1]) (fun k e => by
    have s1 := hbl.size
    simp at s1
    cases e
    rcases hgg with h | h
    · exact .inl h
    · simp at h; exact .inr (.inr (by omega)))
theorem vwb_snoc_new {B B1 : Nat} {w1 w2 : World} {o2 : Obj} {r : Option Nat} {g' : Nat} (hB : B ≤ B1) (hr : ∀ k, r = some k → k < B1) (hg : (w1.alloc o2).grownBy w2 r) (hgg : r = some g' ∨ g' = (w1.alloc o2).heap.size) : HLe (vwb B1 w1 none) (vwb B w2 (some g')) :=
  vwb_step hB (fun k h1 h2 h3 => by
    have e3 : (w1.alloc o2).heap[k]? = w1.heap[k]? := Below.heap_alloc w1 o2 k (by omega)
    rw [hg.block k (by simp; omega) (fun e => by have := hr k e.symm; omega), e3]) (fun k e => by
    cases e
    rcases hgg with h | h
    · exact .inr (.inl (hr _ h))
    · simp at h; exact .inr (.inr (by omega)))

set_option maxHeartbeats 2000000 in
set_option maxRecDepth 100000 in
theorem va_5 (IH : Hid (∀ k ∈ kids, VaOk k)) (hp : PV (.mk 5 tx ks kids)) (hw : WV (.mk 5 tx ks kids) ≤ 5000) (l1 : kids.length ≤ c1) (l2 : c1 ≤ 9223372036854775807) (r1 : RowV m a1 kids) (hm : MLe m w.cell?) :
    Calls Tryz.prog 47 #[.agg #[.int .i64 5, .string tx, .slice ak ks.length ck, .slice a1 kids.length c1]] w (VaP (.mk 5 tx ks kids) w) := by
  have H1 := Lib.hid r1
  have HM := Lib.hid hm
  have HP := Lib.hid hp
  have HW := Lib.hid hw
  have HLEN := Lib.hid (show kids.length ≤ 5000 from Nat.le_trans (WV_kids (.mk 5 tx ks kids)) hw)
  clear hp hw r1 hm
  go_enter Tryz.func47, Tryz.ntmps47
  go_wp2
  go_loopw [3, 33] (fun v i wr => ∃ (k : Nat) (l : List Value), k ≤ kids.length ∧ i = .int .i64 k ∧ Hid (l.length = k ∧ 
      Own EV m0 20 1 (w.heap.size + 1) wr v l ∧ (∀ i (h1 : i < l.length) (h2 : i < kids.length), RA (vwb (w.heap.size + 1) wr v.ownBlock) l[i] kids[i]) ∧ Below w.heap.size w wr ∧ w.heap.size + 1 ≤ wr.heap.size)) (fun _ i _ => kids.length - (intOf i).toNat)
  case atStart =>
    refine ⟨0, [], Nat.zero_le _, rfl, rfl, Own.nil .., fun i h => absurd h (Nat.not_lt_zero _), (Below.refl _ _).alloc (Nat.le_refl _) _, by simp⟩
  case round =>
    obtain ⟨k, l, hk, rfl, hI⟩ := hrel
    by_cases hlt : k < kids.length
    · have hm1 := HM.out.trans (mle_below hI.out.2.2.2.1)
      obtain ⟨b, off, kd, tx', ak', nk, ck', a1', n1, c1', rfl, e0, e1, e2, e3, hkv⟩ := H1.out.at hlt
      replace e0 := hm1 _ _ e0
      replace e1 := hm1 _ _ e1
      replace e2 := hm1 _ _ e2
      replace e3 := hm1 _ _ e3
      have HKV := Lib.hid hkv
      have HM1 := Lib.hid hm1
      have HIN := Lib.hid (IH.out _ (List.getElem_mem hlt))
      have HPk := Lib.hid (HP.out.kid (t := .mk 5 tx ks kids) hlt)
      have HWk := Lib.hid (show WV kids[k] ≤ 5000 from Nat.le_trans (WV_kid (t := .mk 5 tx ks kids) (List.getElem_mem hlt)) HW.out)
      clear hkv hm1
      go_wp2_with (first | (go_at_call 47; refine (HIN.out m _ _ _ _ _ _ _ _ _ HPk.out HWk.out HKV.out (mle_alloc HM1.out _)).mono ?_; rintro e w1 ⟨x, rfl, hx, hbl⟩; have HX := Lib.hid hx; have HBL := Lib.hid hbl; obtain rfl | ⟨T, y, rfl⟩ := hx.shape <;> clear hx hbl) | (at_builtin; refine wpList_snoc em_EV rfl _ _ _ rfl rfl _ _ rfl (l := l) (B := w.heap.size + 1) (m := m0) ⟨((hI.out.2.1.alloc em_EV _).bl em_EV HBL.out).alloc em_EV _, lo_m0 _, cells_new _ _ _, rfl, by simp [Value.oneCell'], ⟨wr.heap.size, rfl, hI.out.2.2.2.2, fun k' e => (hI.out.2.1.lt k' e).2⟩, ⟨16, sl147, by have := HLEN.out; have := hI.out.1; omega⟩, by have := HLEN.out; have := hI.out.1; simp [maxLen]; omega, by have := HBL.out.size; have := hI.out.2.2.2.2; simp at *; omega⟩ ?_; intro g' cap w2 hown2 hg2 hv2 hgg))
      all_goals
        go_roundw
        case rel =>
          refine ⟨k + 1, l ++ [_], by omega, by go_num, by simp [hI.out.1], hown2, ?_, ?_, ?_⟩
          · intro i h1 h2
            by_cases hi : i < l.length
            · rw [List.getElem_append_left hi]
              exact (hI.out.2.2.1 i hi h2).mono (vwb_snoc_old HBL.out hg2 hgg)
            · obtain rfl : i = l.length := by simp at h1; omega
              have ek := hI.out.1
              have e2 : kids[l.length] = kids[k] := by simp only [ek]
              rw [e2]
              simp only [List.getElem_concat_length]
              exact HX.out.mono (vwb_snoc_new (by have := hI.out.2.2.2.2; simp; omega) (fun k' e => by have := (hI.out.2.1.lt k' e).2; simp; omega) hg2 hgg)
          · exact bl_grown (bl_alloc (bl_trans (bl_alloc hI.out.2.2.2.1 _) HBL.out) _) hg2 (fun k' e => by have := hv2 k' e; omega)
          · have h1 := hg2.size; have h2 := HBL.out.size; have h3 := hI.out.2.2.2.2; simp at h1 h2 ⊢; omega
        case measure => simp [intOf]; omega
    · obtain ⟨el, hown, hra, hbl, hsz⟩ := hI.out
      have ek : l.length = kids.length := by omega
      obtain ⟨a, c, rfl, lk, row⟩ := hown.hrow (B' := w.heap.size) (by omega)
      have EL := Lib.hid ek
      have LK := Lib.hid lk
      have ROW := Lib.hid row
      have HRA := Lib.hid hra
      have HBL := Lib.hid hbl
      clear el hown hra hbl lk row ek hI
      go_wp2
      go_ret
      refine ⟨_, rfl, ?_, HBL.out⟩
      have el := EL.out
      have lk := LK.out
      have row := ROW.out
      rw [el] at lk row ⊢
      exact .arr (t := .mk 5 tx ks kids) rfl lk row (fun i h1 h2 => (HRA.out i h1 h2).mono (vwb_step (Nat.le_succ _) (fun _ _ _ _ => rfl) (fun k e => by cases e)))

set_option maxHeartbeats 2000000 in
set_option maxRecDepth 100000 in
theorem va_6 (IH : Hid (∀ k ∈ kids, VaOk k)) (hp : PV (.mk 6 tx ks kids)) (hw : WV (.mk 6 tx ks kids) ≤ 5000) (lk1 : ks.length ≤ ck) (lk2 : ck ≤ 9223372036854775807) (l1 : kids.length ≤ c1) (l2 : c1 ≤ 9223372036854775807) (rk : RowS m ak ks) (r1 : RowV m a1 kids) (hm : MLe m w.cell?) :
    Calls Tryz.prog 47 #[.agg #[.int .i64 6, .string tx, .slice ak ks.length ck, .slice a1 kids.length c1]] w (VaP (.mk 6 tx ks kids) w) := by
  have HK := Lib.hid rk
  have H1 := Lib.hid r1
  have HM := Lib.hid hm
  have HP := Lib.hid hp
  have HW := Lib.hid hw
  have HLEN := Lib.hid (show ks.length ≤ 5000 from Nat.le_trans (WV_keys (.mk 6 tx ks kids)) hw)
  have HEQ := Lib.hid (show ks.length = kids.length from hp.out.2.2.2.2.1 rfl)
  clear hp hw r1 rk hm
  have hmm := @run_makeMap Tryz.prog
  go_enter Tryz.func47, Tryz.ntmps47
  go_wp2
  go_loopw [51] (fun i wr => ∃ (k : Nat) (l : List Value) (D : DataW Value), k ≤ ks.length ∧ i = .int .i64 k ∧ Hid (l.length = k ∧ wr.heap[w.heap.size]? = some (.cells #[.int .i64 6, .string tx, .slice ak ks.length ck, .slice a1 kids.length c1] 29 (0, 0)) ∧
      wr.ownsMap Tryz.prog 9 RV (w.heap.size + 1) k D ∧ MapIs D (ks.take k) l ∧ (∀ i (h1 : i < l.length) (h2 : i < kids.length), RA (vwb (w.heap.size + 2) wr none) l[i] kids[i]) ∧ Below w.heap.size w wr ∧ w.heap.size + 2 ≤ wr.heap.size)) (fun i _ => ks.length - (intOf i).toNat)
  case atStart =>
    refine ⟨0, [], .map [], Nat.zero_le _, rfl, rfl, al_old (al_new rfl), ?_, MapIs.nil, fun i h => absurd h (Nat.not_lt_zero _), ((Below.refl _ _).alloc (Nat.le_refl _) _).alloc (by simp) _, by simp⟩
    have := World.ownsMap_made (w.alloc (.cells #[.int .i64 6, .string tx, .slice ak ks.length ck, .slice a1 kids.length c1] 29)) Tryz.prog 9 RV
    simpa using this
  case round =>
    obtain ⟨k, l, D, hk, rfl, hI⟩ := hrel
    by_cases hlt : k < ks.length
    · have hm1 := HM.out.trans (mle_below hI.out.2.2.2.2.2.1)
      have hlt2 : k < kids.length := by have := HEQ.out; omega
      obtain ⟨bs, offs, rfl, s0⟩ := HK.out.at hlt
      obtain ⟨b, off, kd, tx', ak', nk, ck', a1', n1, c1', rfl, e0, e1, e2, e3, hkv⟩ := H1.out.at hlt2
      replace s0 := hm1 _ _ s0
      replace e0 := hm1 _ _ e0
      replace e1 := hm1 _ _ e1
      replace e2 := hm1 _ _ e2
      replace e3 := hm1 _ _ e3
      obtain ⟨x0, x1, x2, x3⟩ := cells4 hI.out.2.1
      have HKS := Lib.hid (show ks[k].size ≤ maxLen from Nat.le_trans (WV_key (t := .mk 6 tx ks kids) (List.getElem_mem hlt)) (Nat.le_trans HW.out (by simp [maxLen])))
      have hsz0 := lt_blk hI.out.2.1
      have HKV := Lib.hid hkv
      have HM1 := Lib.hid hm1
      have HIN := Lib.hid (IH.out _ (List.getElem_mem hlt2))
      have HPk := Lib.hid (HP.out.kid (t := .mk 6 tx ks kids) hlt2)
      have HWk := Lib.hid (show WV kids[k] ≤ 5000 from Nat.le_trans (WV_kid (t := .mk 6 tx ks kids) (List.getElem_mem hlt2)) HW.out)
      clear hkv hm1
      go_wp2_with (first | (go_at_call 47; refine (HIN.out m _ _ _ _ _ _ _ _ _ HPk.out HWk.out HKV.out HM1.out).mono ?_; rintro e w1 ⟨x, rfl, hx, hbl⟩; have HX := Lib.hid hx; have HBL := Lib.hid hbl; clear hx hbl) | (at_mapUpdate; refine wpList_mapUpdate_own _ rfl _ _ _ 148 rfl 9 20 law9 Tryz.underlying148 RV (w.heap.size + 1) k D rfl (hI.out.2.2.1.kept (bl_grownBy HBL.out) (by simp)) (by have := HLEN.out; simp [maxLen]; omega) _ _ (kL ks[k]) rfl rfl (key9 HKS.out) _ [] rfl ?_; intro w2 hown2 hg2))
      go_roundw
      case rel =>
        have hx2 := grown_heap hg2 (bl_heap HBL.out hI.out.2.1) (fun k' e => by cases e; omega)
        have hs1 := HBL.out.size
        have hs2 := hg2.size
        have hs3 := hI.out.2.2.2.2.2.2
        refine ⟨k + 1, l ++ [x], _, by omega, by go_num, by simp [hI.out.1], hx2, hown2, ?_, ?_, ?_, by omega⟩
        · rw [List.take_succ_eq_append_getElem hlt]
          refine hI.out.2.2.2.1.put fun i hi e => ?_
          rw [List.getElem_take] at e
          have hik : i < k := by simp at hi; omega
          have := chain_less (HP.out.out.2.2.2.2.2.2.1 rfl) i k hik hlt
          rw [e] at this
          exact less_irrefl this
        · intro i h1 h2
          by_cases hi : i < l.length
          · rw [List.getElem_append_left hi]
            refine (hI.out.2.2.2.2.1 i hi h2).mono (vwb_step (Nat.le_refl _) (fun k' h1 h2 h3 => ?_) (fun k e => by cases e))
            rw [hg2.block k' (by omega) (fun e => by cases e; omega), HBL.out.block k' h2]
          · obtain rfl : i = l.length := by simp at h1; omega
            have ek := hI.out.1
            have e2 : kids[l.length] = kids[k] := by simp only [ek]
            rw [e2]
            simp only [List.getElem_concat_length]
            refine HX.out.mono (vwb_step hs3 (fun k' h1 h2 h3 => ?_) (fun k e => by cases e))
            rw [hg2.block k' (by omega) (fun e => by cases e; omega)]
        · exact bl_grown (bl_trans hI.out.2.2.2.2.2.1 HBL.out) hg2 (fun k' e => by cases e; omega)
      case measure => simp [intOf]; omega
    · obtain ⟨el, hx, hown, hmi, hra, hbl, hsz⟩ := hI.out
      have ek : k = ks.length := by omega
      have HMI := Lib.hid (show MapIs D ks l by rw [ek, List.take_length] at hmi; exact hmi)
      have EL := Lib.hid (show l.length = kids.length by have := HEQ.out; omega)
      have HOWN := Lib.hid hown
      have HRA := Lib.hid hra
      have HBL := Lib.hid hbl
      clear el hown hra hbl hx hmi ek hI
      go_wp2
      go_ret
      exact ⟨_, rfl, .obj (t := .mk 6 tx ks kids) rfl (MapH.of HOWN.out (by have := HLEN.out; omega) HMI.out (by omega)) EL.out (fun i h1 h2 => (HRA.out i h1 h2).mono (vwb_step (by omega) (fun _ _ _ _ => rfl) (fun k e => by cases e))), HBL.out⟩
end

theorem va_n (n : Nat) : ∀ t, SizeOf.sizeOf t < n → VaOk t := by
  induction n with
  | zero => intro t h; exact absurd h (Nat.not_lt_zero _)
  | succ n ih =>
    intro t hn m kd tx ak nk ck a1 n1 c1 w hp hw hv hm
    obtain ⟨kd0, tx0, ks, kids⟩ := t
    obtain ⟨e1, e2, e3, e4, ⟨lk1, lk2⟩, ⟨l1, l2⟩, rk, r1⟩ := hv.open
    simp only [Vl.kind, Vl.text, Vl.keys, Vl.kids] at e1 e2 e3 e4 rk r1 lk1 l1
    subst e1 e2 e3 e4
    have IH := Lib.hid (fun k (hk : k ∈ kids) => ih k (by have := Vl.lt_kid (kd := kd) (tx := tx) (ks := ks) hk; omega))
    have h7 := hp.out.1
    have hk7 : kd = 0 ∨ kd = 1 ∨ kd = 2 ∨ kd = 3 ∨ kd = 4 ∨ kd = 5 ∨ kd = 6 := by omega
    rcases hk7 with rfl | rfl | rfl | rfl | rfl | rfl | rfl
    · exact va_0
    · exact va_1
    · exact va_2
    · exact va_3
    · exact va_4
    · exact va_5 IH hp hw l1 l2 r1 hm
    · exact va_6 IH hp hw lk1 lk2 l1 l2 rk r1 hm
theorem va_any (t : Vl) : VaOk t := va_n _ t (Nat.lt_succ_self _)
end Go.Proofs.YtaglgokeejjagaaGreat
