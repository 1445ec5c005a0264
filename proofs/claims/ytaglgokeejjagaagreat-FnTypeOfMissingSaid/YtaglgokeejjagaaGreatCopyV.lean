/- Proved: 'copiedValue' lays a copy of a value. Conditions: the value lies in memory as MV says, within its weight's bound. -/
import Derived.Test.YtaglgokeejjagaaGreatOwn
import Derived.Test.YtaglgokeejjagaaGreatPure1
import Derived.Test.YtaglgokeejjagaaGreatWLast
namespace Go.Proofs.YtaglgokeejjagaaGreat
set_option linter.unusedVariables false
set_option linter.unusedSimpArgs false
open Go.RowKit Go.Sort Go.Proofs.YtaglgokeejjagaaGreatW.PrintLast

def CpV (t : Vl) (m : Mem) (w : World) (e : Ending) (w' : World) : Prop :=
  ∃ kd tx ak nk ck a1 n1 c1, e = .returned (.agg #[.int .i64 kd, .string tx, .slice ak nk ck, .slice a1 n1 c1]) ∧ MV (fr m w.heap.size w' none) (vlCells kd tx ak nk ck a1 n1 c1) t ∧ Below w.heap.size w w'

set_option maxHeartbeats 1000000 in
set_option maxRecDepth 100000 in
theorem copiedValue_any (n : Nat) : ∀ (t : Vl) (m : Mem) (kd : Int) (tx : ByteArray) (ak : Option Addr) (nk ck : Nat) (a1 : Option Addr) (n1 c1 : Nat) (w : World), SizeOf.sizeOf t < n → WV t ≤ 5000 → MV m (vlCells kd tx ak nk ck a1 n1 c1) t → MLe m w.cell? →
    Calls Tryz.prog 39 #[.agg #[.int .i64 kd, .string tx, .slice ak nk ck, .slice a1 n1 c1]] w (CpV t m w) := by
  induction n with
  | zero => intro t m kd tx ak nk ck a1 n1 c1 w h; exact absurd h (Nat.not_lt_zero _)
  | succ n ih =>
    intro t m kd tx ak nk ck a1 n1 c1 w hn hw hv hm
    have IH := Lib.hid ih
    clear ih
    obtain ⟨rfl, rfl, rfl, rfl, ⟨lk1, lk2⟩, ⟨l11, l12⟩, rk, r1⟩ := hv.open
    have HK := Lib.hid rk
    have H1 := Lib.hid r1
    have HM := Lib.hid hm
    have HW := Lib.hid hw
    have HN := Lib.hid hn
    have HLK := Lib.hid (And.intro lk1 lk2)
    clear rk r1 hm hw hn hv
    go_enter Tryz.func39, Tryz.ntmps39
    go_wp2
    go_loopw [5, 16] (fun _ i wr => ∃ (k : Nat) (v : Value), k ≤ t.kids.length ∧ i = .int .i64 k ∧ Hid (
        wr.heap[w.heap.size + 1]? = some (.cells #[.int .i64 0, .string ⟨#[]⟩, .slice none 0 0, .slice none 0 0] 36 (0, 0)) ∧
        wr.heap[w.heap.size + 1 + 1]? = some (.cells #[.int .i64 t.kind, .string t.text, .slice ak t.keys.length ck, v] 36 (0, 0)) ∧
        Own MV m 36 4 (w.heap.size + 3) wr v (t.kids.take k) ∧ Below w.heap.size w wr ∧ w.heap.size + 3 ≤ wr.heap.size)) (fun _ i _ => t.kids.length - (intOf i).toNat)
    case atStart =>
      refine ⟨0, .slice none 0 0, Nat.zero_le _, rfl, ?_, ?_, ?_, ?_, ?_⟩
      · exact al_old (al_new (by simp))
      · exact al_new (by simp)
      · exact Own.nil ..
      · repeat (first | exact Below.refl _ _ | refine Below.alloc ?_ (by simp; try omega) _)
      · simp
    case round =>
      obtain ⟨k, v, hk, rfl, hI⟩ := hrel
      by_cases hlt : k < t.kids.length
      · have hm1 := HM.out.trans (mle_below hI.out.2.2.2.1)
        obtain ⟨b, off, kd, tx, ak', nk, ck', a1', n1, c1', rfl, e0, e1, e2, e3, hkv⟩ := H1.out.at hlt
        replace e0 := hm1 _ _ e0
        replace e1 := hm1 _ _ e1
        replace e2 := hm1 _ _ e2
        replace e3 := hm1 _ _ e3
        have hbo : w.heap.size + 1 + 1 < wr.heap.size := by have := hI.out.2.2.2.2; omega
        have HKV := Lib.hid hkv
        have HM1 := Lib.hid hm1
        have HSk := Lib.hid (show SizeOf.sizeOf t.kids[k] < n from by have := Vl.lt_kid' (t := t) (List.getElem_mem hlt); have := HN.out; omega)
        have HWk := Lib.hid (show WV t.kids[k] ≤ 5000 from Nat.le_trans (WV_kid (List.getElem_mem hlt)) HW.out)
        have HLEN := Lib.hid (show t.kids.length ≤ 5000 from Nat.le_trans (WV_kids t) HW.out)
        have HV := Lib.hid (fun k' (e : v.ownBlock = some k') => (hI.out.2.2.1.lt k' e).2)
        clear hkv hm1
        go_wp2
        have HC := Lib.hid (show (wr.alloc (.cells #[.int .i64 kd, .string tx, .slice ak' nk ck', .slice a1' n1 c1'] 29)).heap[wr.heap.size]? = _ from al_new rfl)
        have HB := Lib.hid (show (wr.alloc (.cells #[.int .i64 kd, .string tx, .slice ak' nk ck', .slice a1' n1 c1'] 29)).heap[w.heap.size + 1 + 1]? = _ from al_old hI.out.2.1)
        refine start_ (n := 8) (S := fun w' => w'.cell? ⟨w.heap.size + 1 + 1, 3, none⟩ = some v ∧ w'.cell? ⟨wr.heap.size, 0, none⟩ = some (.int .i64 kd) ∧ w'.cell? ⟨wr.heap.size, 1, none⟩ = some (.string tx) ∧ w'.cell? ⟨wr.heap.size, 2, none⟩ = some (.slice ak' nk ck') ∧ w'.cell? ⟨wr.heap.size, 3, none⟩ = some (.slice a1' n1 c1')) (ds := [7]) #[false, false, false, false, false, false, false, false] (by kernel_rfl) rfl rfl ⟨cell_blk HB.out 3 rfl, cell_blk HC.out 0 rfl, cell_blk HC.out 1 rfl, cell_blk HC.out 2 rfl, cell_blk HC.out 3 rfl⟩ (fun hHeld => ?_)
        refine pure_ (i := 0) (N := some 20) (v := ?_) (a' := ?_) #[true, false, false, false, false, false, false, false] rfl rfl (by kernel_rfl) (fun _ _ _ h => h) (Or.inl ⟨by rfl, ?_⟩) ?_ ?_
        rotate_left
        · intro w'
          go_simp
          with_reducible rfl
        rotate_left
        · simp only [Act.put, List.setIfInBounds_toArray, List.set_cons_zero, List.set_cons_succ, i64_w, i32_w]
          rfl
        refine take_ (i := 1) (N := some 21) (v := ?_) (a' := ?_) #[true, true, false, false, false, false, false, false] rfl rfl (by kernel_rfl) (fun _ _ _ h => h) (Or.inl ⟨by rfl, ?_⟩) hHeld ?_ ?_
        rotate_left
        · rintro w' ⟨s0, s1, s2, s3, s4⟩
          go_simp
          with_reducible rfl
        rotate_left
        · simp only [Act.put, List.setIfInBounds_toArray, List.set_cons_zero, List.set_cons_succ, i64_w, i32_w]
          rfl
        refine take_ (i := 2) (N := some 22) (v := ?_) (a' := ?_) #[true, true, true, false, false, false, false, false] rfl rfl (by kernel_rfl) (fun _ _ _ h => h) (Or.inl ⟨by rfl, ?_⟩) hHeld ?_ ?_
        rotate_left
        · rintro w' ⟨s0, s1, s2, s3, s4⟩
          go_simp
          with_reducible rfl
        rotate_left
        · simp only [Act.put, List.setIfInBounds_toArray, List.set_cons_zero, List.set_cons_succ, i64_w, i32_w]
          rfl
        refine one_ (i := 3) (N := some 23) #[true, true, true, true, false, false, false, false] rfl rfl (by kernel_rfl) (by decide) (fun K hK => ?_)
        refine goes_ Tryz.func39 (by kernel_rfl) rfl #[.agg #[.int .i64 kd, .string tx, .slice ak' nk ck', .slice a1' n1 c1']] (by rfl) rfl rfl (by simp only [List.map_toArray, List.map_cons, List.map_nil]; rfl) ?_
        with_reducible refine (IH.out _ m _ _ _ _ _ _ _ _ _ HSk.out HWk.out HKV.out (mle_drew (mle_alloc HM1.out _))).mono ?_
        rintro e w1 ⟨kd', tx', ak'', nk', ck'', a1'', n1', c1'', rfl, hmv, hbl⟩
        refine ⟨_, rfl, ?_⟩
        refine hK.out _ _ ⟨cell_blk (bl_heap hbl HB.out) 3 rfl, cell_blk (bl_heap hbl HC.out) 0 rfl, cell_blk (bl_heap hbl HC.out) 1 rfl, cell_blk (bl_heap hbl HC.out) 2 rfl, cell_blk (bl_heap hbl HC.out) 3 rfl⟩ (fun hHeld => ?_)
        clear hK K
        refine norm_ (a' := ?_) ?_ ?_
        rotate_left
        · show Act.put _ (some 23) _ = _
          simp only [Act.put, List.setIfInBounds_toArray, List.set_cons_zero, List.set_cons_succ, i64_w, i32_w]
          rfl
        refine one_ (i := 4) (N := some 24) #[true, true, true, true, true, false, false, false] rfl rfl (by kernel_rfl) (by decide) (fun K hK => ?_)
        refine value_ (w1 := ?_) (v := ?_) (by rfl) rfl ?_ ?_
        rotate_left 2
        · go_simp
          constructor
          · rfl
          · rfl
        refine hK.out _ _ ⟨cell_blk (al_old (bl_heap hbl HB.out)) 3 rfl, cell_blk (al_old (bl_heap hbl HC.out)) 0 rfl, cell_blk (al_old (bl_heap hbl HC.out)) 1 rfl, cell_blk (al_old (bl_heap hbl HC.out)) 2 rfl, cell_blk (al_old (bl_heap hbl HC.out)) 3 rfl⟩ (fun hHeld => ?_)
        clear hK K
        refine norm_ (a' := ?_) ?_ ?_
        rotate_left
        · show Act.put _ (some 24) _ = _
          simp only [Act.put, List.setIfInBounds_toArray, List.set_cons_zero, List.set_cons_succ, i64_w, i32_w]
          rfl
        refine one_ (i := 5) (N := some 25) #[true, true, true, true, true, true, false, false] rfl rfl (by kernel_rfl) (by decide) (fun K hK => ?_)
        refine step_snoc em_V rfl _ _ _ rfl rfl _ _ rfl (y := t.kids[k]) (l := t.kids.take k) (B := w.heap.size + 3) (m := m)  ⟨(((hI.out.2.2.1.alloc em_V _).drew em_V).bl em_V hbl).alloc em_V _, (lo_of_mle HM.out).mono (by omega), cells_new _ _ _, rfl, by simp [Value.oneCell'], ⟨_, em_V _ _ _ _ (fr_alloc _) hmv, by simp; omega, fun k' e => by have := HV.out k' e; simp; omega⟩, ⟨72, sl34, by have := HLEN.out; simp; omega⟩, by have := HLEN.out; simp [maxLen]; omega, by have := hbl.size; simp at this ⊢; omega⟩ ?_
        intro g' cap w2 hown2 hg2 hv2 hgg
        have HB2 := grown_heap hg2 (al_old (bl_heap hbl HB.out)) (fun k' e => by have := hv2 k' e; omega)
        have HC2 := grown_heap hg2 (al_old (bl_heap hbl HC.out)) (fun k' e => by have := HV.out k' e; omega)
        refine hK.out _ _ ⟨cell_blk HB2 3 rfl, cell_blk HC2 0 rfl, cell_blk HC2 1 rfl, cell_blk HC2 2 rfl, cell_blk HC2 3 rfl⟩ (fun hHeld => ?_)
        clear hK K
        refine norm_ (a' := ?_) ?_ ?_
        rotate_left
        · show Act.put _ (some 25) _ = _
          simp only [Act.put, List.setIfInBounds_toArray, List.set_cons_zero, List.set_cons_succ, i64_w, i32_w]
          rfl
        refine pure_ (i := 6) (N := some 26) (v := ?_) (a' := ?_) #[true, true, true, true, true, true, true, false] rfl rfl (by kernel_rfl) (fun _ _ _ h => h) (Or.inl ⟨by rfl, ?_⟩) ?_ ?_
        rotate_left
        · intro w'
          go_simp
          with_reducible rfl
        rotate_left
        · simp only [Act.put, List.setIfInBounds_toArray, List.set_cons_zero, List.set_cons_succ, i64_w, i32_w]
          rfl
        refine last_ (i := 7) (N := none) #[true, true, true, true, true, true, true, true] rfl rfl (by kernel_rfl) (by decide) (fun K hK => ?_)
        have c3 := cell_blk HB2 3 rfl
        have f3 := froz_blk HB2 3
        refine skip_ (w1 := ?_) (by rfl) rfl ?_ ?_
        rotate_left
        · go_simp
          rfl
        refine hK.out _ _ ?_
        clear hK K
        refine done_ (by kernel_rfl) ?_
        clear c3 f3 HC2
        have HS2 := lt_blk HB2
        go_wp2
        go_roundw
        case rel =>
          have el : (t.kids.take k).length = k := by simp; omega
          rw [el, ← List.take_succ_eq_append_getElem hlt] at hown2
          refine ⟨k + 1, _, by omega, by go_num, ?_, set_blk HB2 3 _, hown2.setLow em_V (show w.heap.size + 1 + 1 < w.heap.size + 3 from by omega) _, ?_, ?_⟩
          · exact set_old (grown_heap hg2 (al_old (bl_heap hbl (al_old hI.out.1))) (fun k' e => by have := hv2 k' e; omega)) (show w.heap.size + 1 ≠ w.heap.size + 1 + 1 from by omega)
          · exact (bl_grown (bl_alloc (bl_trans (bl_alloc hI.out.2.2.2.1 _).drew hbl) _) hg2 (fun k' e => by have := hv2 k' e; omega)).setCell (show w.heap.size ≤ w.heap.size + 1 + 1 from by omega) _
          · have h1 := hg2.size; have h2 := hbl.size; have h3 := hI.out.2.2.2.2; simp at h1 h2 ⊢; omega
        case measure => simp [intOf]; omega
      · obtain rfl : k = t.kids.length := by omega
        obtain ⟨hh1, hh2, hown, hb, hsz⟩ := hI.out
        rw [List.take_length] at hown
        obtain ⟨a, c, rfl, lok, row⟩ := hown.rowV
        have r0 := cell_blk hh1 0 rfl
        have r1 := cell_blk hh1 1 rfl
        have r2 := cell_blk hh1 2 rfl
        have r3 := cell_blk hh1 3 rfl
        have fr' := froz_blk hh1
        have o0 := cell_blk hh2 0 rfl
        have o1 := cell_blk hh2 1 rfl
        have o2 := cell_blk hh2 2 rfl
        have o3 := cell_blk hh2 3 rfl
        have ROW := Lib.hid row
        have HBE := Lib.hid hb
        have HH1 := Lib.hid hh1
        have LOK := Lib.hid lok
        clear hh1 hh2 hown hb row lok hI
        go_wp2
        refine bodyPost_ret (v := .agg #[.int .i64 t.kind, .string t.text, .slice ak t.keys.length ck, .slice a t.kids.length c]) (by simp [results, Tryz.results39, go_sem, r0, r1, r2, r3]) rfl ⟨_, _, _, _, _, _, _, _, rfl, ?_, ?_⟩
        · refine MV.close' HLK.out LOK.out (HK.out.mono (fr_old (lo_of_mle HM.out))) (ROW.out.mono (fr_lower (lo_of_mle HM.out) (by omega) fun k h1 h2 => ?_))
          repeat rw [Below.heap_setCell _ _ _ k (show k ≠ w.heap.size + 1 from by omega)]
        · have hle : w.heap.size ≤ w.heap.size + 1 := by omega
          exact (((HBE.out.setCell hle _).setCell hle _).setCell hle _).setCell hle _
end Go.Proofs.YtaglgokeejjagaaGreat
