/- The law FnSelectItem: the walks where an item is selected. -/
import Derived.Test.YtaglgokeejjagaaGreatLawI
namespace Go.Proofs.YtaglgokeejjagaaGreat
set_option linter.unusedVariables false
set_option linter.unusedSimpArgs false
open Go.RowKit Go.Sort Go.Proofs.YtaglgokeejjagaaGreatW.PrintLast

variable {t : IT} {m : Mem} {kd : Int} {nm tx : ByteArray} {ak a1 a2 : Option Addr} {nk ck n1 c1 n2 c2 : Nat} {w : World}
set_option maxHeartbeats 8000000 in
set_option maxRecDepth 100000 in
theorem li_kid {k : Nat} (hb : BdI t) (hv : MIT m (itCells kd nm tx ak nk ck a1 n1 c1 a2 n2 c2) t) (hm : MLe m w.cell?) (hkd : t.kind = 5) (hk : k < t.kids.length) :
    Calls Tryz.prog 4 #[.agg #[.int .i64 kd, .string t.name, .string t.text, .slice ak nk ck, .slice a1 n1 c1, .slice a2 n2 c2], .int .i64 k] w (LawQ w) := by
  have HF := Lib.hid (fun (W : World) (h : MLe m W.cell?) => show Calls Tryz.prog 10 #[.agg #[.int .i64 kd, .string nm, .string tx, .slice ak nk ck, .slice a1 n1 c1, .slice a2 n2 c2]] W (SomeB W) from zzFits1_any hb hv h)
  have HPR := Lib.hid (fun (W : World) (b : Nat) (h : MLe m W.cell?) (hx : W.heap[b]? = some (.cells #[.int .i64 kd, .string nm, .string tx, .slice ak nk ck, .slice a1 n1 c1, .slice a2 n2 c2] 25 (0, 0))) => show Calls Tryz.prog 12 #[.slice (some ⟨b, 0, none⟩) 1 1] W (PrpQ t W) from proper1 hb hv h hx)
  have HM := Lib.hid hm
  have HV := Lib.hid hv
  clear hb hm hv
  obtain ⟨rfl, rfl, rfl, rfl, rfl, rfl, ⟨lk1, lk2⟩, ⟨l11, l12⟩, ⟨l21, l22⟩, rk, r1, r2⟩ := HV.out.open
  obtain ⟨rb, off, qd, qn, qt, qk, qnk, qck, q1, qn1, qc1, q2, qn2, qc2, rfl, q0, q1', q2', q3, q4, q5, hq⟩ := r1.at hk
  have Q0 := Lib.hid q0
  have Q1 := Lib.hid q1'
  have Q2 := Lib.hid q2'
  have Q3 := Lib.hid q3
  have Q4 := Lib.hid q4
  have Q5 := Lib.hid q5
  have HQ := Lib.hid hq
  clear rk r1 r2 q0 q1' q2' q3 q4 q5 hq
  rw [hkd] at HPR HF HV ⊢
  have HKD := Lib.hid hkd
  clear hkd
  have hx : decide ((k : Int) < (t.kids.length : Int)) = true := by simp; omega
  go_enter Tryz.func4, Tryz.ntmps4
  go_wp2_with (first
    | (go_at_call 10; refine (HF.out _ (mle_alloc HM.out _)).mono ?_; rintro e w1 ⟨b, rfl, hg⟩; have HX := Lib.hid (bl_heap hg.below (al_new rfl)); have HB1 := Lib.hid (bl_trans (bl_alloc (Below.refl _ _) _) hg.below); obtain ⟨x0, x1, x2, x3, x4, x5⟩ := cells6 HX.out; have x6 := lt_blk HX.out; cases b <;> clear hg)
    | (go_at_call 12; refine (HPR.out _ _ (mle_alloc (HM.out.trans (mle_below HB1.out)) _) (al_new rfl)).mono ?_; rintro e w2 ⟨b, rfl, hp, hb2⟩; have HPP := Lib.hid hp; have HB2 := Lib.hid (bl_trans (bl_alloc HB1.out _) hb2); have HX2 := Lib.hid (bl_heap hb2 (al_old HX.out)); clear hp hb2 x0 x1 x2 x3 x4 x5 x6; obtain ⟨x0, x1, x2, x3, x4, x5⟩ := cells6 HX2.out; have x6 := lt_blk HX2.out; cases b)
    | (go_at_call 17; refine (works_any _).mono ?_; rintro e w4 ⟨rfl, hg4⟩; have HB4 := Lib.hid (bl_trans HB2.out hg4.below); clear hg4))
  all_goals first | (go_ret; first | exact ⟨rfl, HB4.out⟩ | exact ⟨rfl, HB1.out⟩) | skip
  rename 0 ≤ (k : Int) ∧ (k : Int) ≤ 100 => h100
  have hk100 : k ≤ 100 := by omega
  obtain ⟨hw5, hpt⟩ := HPP.out (by simp)
  have hbt := pt_bt hpt
  have HBK := Lib.hid (bt_kid hbt (.inl (List.getElem_mem hk)))
  have HWK := Lib.hid (Nat.le_trans (wi_kid (.inl (List.getElem_mem hk))) hw5)
  have HSEL := Lib.hid (fun (W : World) (vt : ByteArray) (ht : vt.data.toList = digs k) (h : MLe m W.cell?) => show Calls Tryz.prog 21 #[.agg #[.int .i64 5, .string t.name, .string t.text, .slice ak t.keys.length ck, .slice (some ⟨rb, off, none⟩) t.kids.length c1, .slice a2 t.more.length c2], .agg #[.int .i64 3, .string vt, .slice none 0 0, .slice none 0 0]] W (SeQ (· = some (nrm (toS t.kids[k]))) W) from sel21_arr HV.out hbt hw5 HKD.out (by omega) (.inl (List.getElem_mem hk)) (arr_kid hk) ht h)
  clear hw5 hpt hbt
  have HM2 := Lib.hid (HM.out.trans (mle_below HB2.out))
  clear x0 x1 x2 x3 x4 x5 x6
  refine start_ (n := 16) (S := fun w' => w'.cell? ⟨w.heap.size, 0, none⟩ = some (.int .i64 5) ∧ w'.cell? ⟨w.heap.size, 1, none⟩ = some (.string t.name) ∧ w'.cell? ⟨w.heap.size, 2, none⟩ = some (.string t.text) ∧ w'.cell? ⟨w.heap.size, 3, none⟩ = some (.slice ak t.keys.length ck) ∧ w'.cell? ⟨w.heap.size, 4, none⟩ = some (.slice (some ⟨rb, off, none⟩) t.kids.length c1) ∧ w'.cell? ⟨w.heap.size, 5, none⟩ = some (.slice a2 t.more.length c2) ∧ w'.cell? ⟨rb, off + k * 6, none⟩ = some (.int .i64 qd) ∧ w'.cell? ⟨rb, off + k * 6 + 1, none⟩ = some (.string qn) ∧ w'.cell? ⟨rb, off + k * 6 + 2, none⟩ = some (.string qt) ∧ w'.cell? ⟨rb, off + k * 6 + 3, none⟩ = some (.slice qk qnk qck) ∧ w'.cell? ⟨rb, off + k * 6 + 4, none⟩ = some (.slice q1 qn1 qc1) ∧ w'.cell? ⟨rb, off + k * 6 + 5, none⟩ = some (.slice q2 qn2 qc2)) (ds := []) #[false, false, false, false, false, false, false, false, false, false, false, false, false, false, false, false] (by kernel_rfl) rfl rfl ⟨cell_blk HX2.out 0 rfl, cell_blk HX2.out 1 rfl, cell_blk HX2.out 2 rfl, cell_blk HX2.out 3 rfl, cell_blk HX2.out 4 rfl, cell_blk HX2.out 5 rfl, HM2.out _ _ Q0.out, HM2.out _ _ Q1.out, HM2.out _ _ Q2.out, HM2.out _ _ Q3.out, HM2.out _ _ Q4.out, HM2.out _ _ Q5.out⟩ (fun hHeld => ?_)
  refine pure_ (i := 1) (N := some 33) (v := ?_) (a' := ?_) #[false, true, false, false, false, false, false, false, false, false, false, false, false, false, false, false] rfl rfl (by kernel_rfl) (fun _ _ _ h => h) (Or.inl ⟨by rfl, ?_⟩) ?_ ?_
  rotate_left
  · intro w'
    go_simp
    with_reducible rfl
  rotate_left
  · simp only [Act.put, List.setIfInBounds_toArray, List.set_cons_zero, List.set_cons_succ, i64_w, i32_w]
    rfl
  refine pure_ (i := 5) (N := some 37) (v := ?_) (a' := ?_) #[false, true, false, false, false, true, false, false, false, false, false, false, false, false, false, false] rfl rfl (by kernel_rfl) (fun _ _ _ h => h) (Or.inl ⟨by rfl, ?_⟩) ?_ ?_
  rotate_left
  · intro w'
    go_simp
    with_reducible rfl
  rotate_left
  · simp only [Act.put, List.setIfInBounds_toArray, List.set_cons_zero, List.set_cons_succ, i64_w, i32_w]
    rfl
  refine pure_ (i := 7) (N := some 39) (v := ?_) (a' := ?_) #[false, true, false, false, false, true, false, true, false, false, false, false, false, false, false, false] rfl rfl (by kernel_rfl) (fun _ _ _ h => h) (Or.inl ⟨by rfl, ?_⟩) ?_ ?_
  rotate_left
  · intro w'
    go_simp
    with_reducible rfl
  rotate_left
  · simp only [Act.put, List.setIfInBounds_toArray, List.set_cons_zero, List.set_cons_succ, i64_w, i32_w]
    rfl
  refine take_ (i := 0) (N := some 32) (v := ?_) (a' := ?_) #[true, true, false, false, false, true, false, true, false, false, false, false, false, false, false, false] rfl rfl (by kernel_rfl) (fun _ _ _ h => h) (Or.inl ⟨by rfl, ?_⟩) hHeld ?_ ?_
  rotate_left
  · rintro w' ⟨s0, s1, s2, s3, s4, s5, s6, s7, s8, s9, s10, s11⟩
    go_simp
    with_reducible rfl
  rotate_left
  · simp only [Act.put, List.setIfInBounds_toArray, List.set_cons_zero, List.set_cons_succ, i64_w, i32_w]
    rfl
  refine take_ (i := 6) (N := some 38) (v := ?_) (a' := ?_) #[true, true, false, false, false, true, true, true, false, false, false, false, false, false, false, false] rfl rfl (by kernel_rfl) (fun _ _ _ h => h) (Or.inl ⟨by rfl, ?_⟩) hHeld ?_ ?_
  rotate_left
  · rintro w' ⟨s0, s1, s2, s3, s4, s5, s6, s7, s8, s9, s10, s11⟩
    go_simp
    with_reducible rfl
  rotate_left
  · simp only [Act.put, List.setIfInBounds_toArray, List.set_cons_zero, List.set_cons_succ, i64_w, i32_w]
    rfl
  refine pure_ (i := 8) (N := some 40) (v := ?_) (a' := ?_) #[true, true, false, false, false, true, true, true, true, false, false, false, false, false, false, false] rfl rfl (by kernel_rfl) (fun _ _ _ h => h) (Or.inl ⟨by rfl, ?_⟩) ?_ ?_
  rotate_left
  · intro w'
    go_simp
    with_reducible rfl
  rotate_left
  · simp only [Act.put, List.setIfInBounds_toArray, List.set_cons_zero, List.set_cons_succ, i64_w, i32_w]
    rfl
  refine take_ (i := 9) (N := some 41) (v := ?_) (a' := ?_) #[true, true, false, false, false, true, true, true, true, true, false, false, false, false, false, false] rfl rfl (by kernel_rfl) (fun _ _ _ h => h) (Or.inl ⟨by rfl, ?_⟩) hHeld ?_ ?_
  rotate_left
  · rintro w' ⟨s0, s1, s2, s3, s4, s5, s6, s7, s8, s9, s10, s11⟩
    go_simp
    with_reducible rfl
  rotate_left
  · simp only [Act.put, List.setIfInBounds_toArray, List.set_cons_zero, List.set_cons_succ, i64_w, i32_w]
    rfl
  refine one_ (i := 2) (N := some 34) #[true, true, true, false, false, true, true, true, true, true, false, false, false, false, false, false] rfl rfl (by kernel_rfl) (by decide) (fun K hK => ?_)
  refine goes_ Tryz.func24 (by kernel_rfl) rfl #[.int .i64 k] (by rfl) rfl rfl (by simp only [List.map_toArray, List.map_cons, List.map_nil]; rfl) ?_
  with_reducible refine (num_any k (by omega) _).mono ?_
  rintro e w3 ⟨vt, rfl, hvt, hg⟩
  refine ⟨_, rfl, ?_⟩
  have HVT := Lib.hid hvt
  have HB3 := Lib.hid (bl_trans HB2.out.drew hg.below)
  have HX3 := Lib.hid (bl_heap hg.below HX2.out)
  have HM3 := Lib.hid (HM.out.trans (mle_below HB3.out))
  clear hvt hg
  refine hK.out _ _ ⟨cell_blk HX3.out 0 rfl, cell_blk HX3.out 1 rfl, cell_blk HX3.out 2 rfl, cell_blk HX3.out 3 rfl, cell_blk HX3.out 4 rfl, cell_blk HX3.out 5 rfl, HM3.out _ _ Q0.out, HM3.out _ _ Q1.out, HM3.out _ _ Q2.out, HM3.out _ _ Q3.out, HM3.out _ _ Q4.out, HM3.out _ _ Q5.out⟩ (fun hHeld => ?_)
  clear hK K
  refine norm_ (a' := ?_) ?_ ?_
  rotate_left
  · show Act.put _ (some 34) _ = _
    simp only [Act.put, List.setIfInBounds_toArray, List.set_cons_zero, List.set_cons_succ, i64_w, i32_w]
    rfl
  refine pure_ (i := 3) (N := some 35) (v := ?_) (a' := ?_) #[true, true, true, true, false, true, true, true, true, true, false, false, false, false, false, false] rfl rfl (by kernel_rfl) (fun _ _ _ h => h) (Or.inl ⟨by rfl, ?_⟩) ?_ ?_
  rotate_left
  · intro w'
    go_simp
    with_reducible rfl
  rotate_left
  · simp only [Act.put, List.setIfInBounds_toArray, List.set_cons_zero, List.set_cons_succ, i64_w, i32_w]
    rfl
  refine one_ (i := 4) (N := some 36) #[true, true, true, true, true, true, true, true, true, true, false, false, false, false, false, false] rfl rfl (by kernel_rfl) (by decide) (fun K hK => ?_)
  refine goes_ Tryz.func21 (by kernel_rfl) rfl #[.agg #[.int .i64 5, .string t.name, .string t.text, .slice ak t.keys.length ck, .slice (some ⟨rb, off, none⟩) t.kids.length c1, .slice a2 t.more.length c2], .agg #[.int .i64 3, .string vt, .slice none 0 0, .slice none 0 0]] (by rfl) rfl rfl (by simp only [List.map_toArray, List.map_cons, List.map_nil]; rfl) ?_
  with_reducible refine (HSEL.out _ _ HVT.out HM3.out).mono ?_
  rintro e w5 ⟨o, ho, ak5, nk5, ck5, a15, n15, c15, a25, n25, c25, rfl, hmv, hbl⟩
  refine ⟨_, rfl, ?_⟩
  have HO := Lib.hid ho
  have HMV := Lib.hid hmv
  have HB5 := Lib.hid (bl_trans HB3.out hbl)
  have HX5 := Lib.hid (bl_heap hbl HX3.out)
  have HM5 := Lib.hid (HM.out.trans (mle_below HB5.out))
  clear ho hmv hbl
  refine hK.out _ _ ⟨cell_blk HX5.out 0 rfl, cell_blk HX5.out 1 rfl, cell_blk HX5.out 2 rfl, cell_blk HX5.out 3 rfl, cell_blk HX5.out 4 rfl, cell_blk HX5.out 5 rfl, HM5.out _ _ Q0.out, HM5.out _ _ Q1.out, HM5.out _ _ Q2.out, HM5.out _ _ Q3.out, HM5.out _ _ Q4.out, HM5.out _ _ Q5.out⟩ (fun hHeld => ?_)
  clear hK K
  refine norm_ (a' := ?_) ?_ ?_
  rotate_left
  · show Act.put _ (some 36) _ = _
    simp only [Act.put, List.setIfInBounds_toArray, List.set_cons_zero, List.set_cons_succ, i64_w, i32_w]
    rfl
  refine one_ (i := 10) (N := some 42) #[true, true, true, true, true, true, true, true, true, true, true, false, false, false, false, false] rfl rfl (by kernel_rfl) (by decide) (fun K hK => ?_)
  refine goes_ Tryz.func23 (by kernel_rfl) rfl #[.agg #[.int .i64 (oI o).kind, .string ⟨#[]⟩, .string ⟨#[]⟩, .slice ak5 nk5 ck5, .slice a15 n15 c15, .slice a25 n25 c25], .agg #[.int .i64 qd, .string qn, .string qt, .slice qk qnk qck, .slice q1 qn1 qc1, .slice q2 qn2 qc2]] (by rfl) rfl rfl (by simp only [List.map_toArray, List.map_cons, List.map_nil]; rfl) ?_
  with_reducible refine (icmp_zero HO.out HMV.out HBK.out HWK.out (fr_le (m0_le _)) HQ.out HM5.out).mono ?_
  rintro e w6 ⟨rfl, hbl⟩
  refine ⟨_, rfl, ?_⟩
  have HB6 := Lib.hid (bl_trans HB5.out hbl)
  have HX6 := Lib.hid (bl_heap hbl HX5.out)
  have HM6 := Lib.hid (HM.out.trans (mle_below HB6.out))
  clear hbl
  refine hK.out _ _ ⟨cell_blk HX6.out 0 rfl, cell_blk HX6.out 1 rfl, cell_blk HX6.out 2 rfl, cell_blk HX6.out 3 rfl, cell_blk HX6.out 4 rfl, cell_blk HX6.out 5 rfl, HM6.out _ _ Q0.out, HM6.out _ _ Q1.out, HM6.out _ _ Q2.out, HM6.out _ _ Q3.out, HM6.out _ _ Q4.out, HM6.out _ _ Q5.out⟩ (fun hHeld => ?_)
  clear hK K
  refine norm_ (a' := ?_) ?_ ?_
  rotate_left
  · show Act.put _ (some 42) _ = _
    simp only [Act.put, List.setIfInBounds_toArray, List.set_cons_zero, List.set_cons_succ, i64_w, i32_w]
    rfl
  refine pure_ (i := 11) (N := some 43) (v := ?_) (a' := ?_) #[true, true, true, true, true, true, true, true, true, true, true, true, false, false, false, false] rfl rfl (by kernel_rfl) (fun _ _ _ h => h) (Or.inl ⟨by rfl, ?_⟩) ?_ ?_
  rotate_left
  · intro w'
    go_simp
    with_reducible rfl
  rotate_left
  · simp only [Act.put, List.setIfInBounds_toArray, List.set_cons_zero, List.set_cons_succ, i64_w, i32_w]
    rfl
  refine pure_ (i := 12) (N := some 44) (v := ?_) (a' := ?_) #[true, true, true, true, true, true, true, true, true, true, true, true, true, false, false, false] rfl rfl (by kernel_rfl) (fun _ _ _ h => h) (Or.inl ⟨by rfl, ?_⟩) ?_ ?_
  rotate_left
  · intro w'
    go_simp
    with_reducible rfl
  rotate_left
  · simp only [Act.put, List.setIfInBounds_toArray, List.set_cons_zero, List.set_cons_succ, i64_w, i32_w]
    rfl
  refine one_ (i := 13) (N := some 45) #[true, true, true, true, true, true, true, true, true, true, true, true, true, true, false, false] rfl rfl (by kernel_rfl) (by decide) (fun K hK => ?_)
  refine goes_ Tryz.func17 (by kernel_rfl) rfl #[] (by rfl) rfl rfl (by simp only [List.map_toArray, List.map_cons, List.map_nil]) ?_
  with_reducible refine (works_any w6).mono ?_
  rintro e w7 ⟨rfl, hg⟩
  refine ⟨_, rfl, ?_⟩
  have HB7 := Lib.hid (bl_trans HB6.out hg.below)
  have HX7 := Lib.hid (bl_heap hg.below HX6.out)
  have HM7 := Lib.hid (HM.out.trans (mle_below HB7.out))
  clear hg
  refine hK.out _ _ ⟨cell_blk HX7.out 0 rfl, cell_blk HX7.out 1 rfl, cell_blk HX7.out 2 rfl, cell_blk HX7.out 3 rfl, cell_blk HX7.out 4 rfl, cell_blk HX7.out 5 rfl, HM7.out _ _ Q0.out, HM7.out _ _ Q1.out, HM7.out _ _ Q2.out, HM7.out _ _ Q3.out, HM7.out _ _ Q4.out, HM7.out _ _ Q5.out⟩ (fun hHeld => ?_)
  clear hK K
  refine norm_ (a' := ?_) ?_ ?_
  rotate_left
  · show Act.put _ (some 45) _ = _
    simp only [Act.put, List.setIfInBounds_toArray, List.set_cons_zero, List.set_cons_succ, i64_w, i32_w]
    rfl
  refine pure_ (i := 14) (N := some 46) (v := ?_) (a' := ?_) #[true, true, true, true, true, true, true, true, true, true, true, true, true, true, true, false] rfl rfl (by kernel_rfl) (fun _ _ _ h => h) (Or.inl ⟨by rfl, ?_⟩) ?_ ?_
  rotate_left
  · intro w'
    go_simp
    with_reducible rfl
  rotate_left
  · simp only [Act.put, List.setIfInBounds_toArray, List.set_cons_zero, List.set_cons_succ, i64_w, i32_w]
    rfl
  refine pure_ (i := 15) (N := some 4) (v := ?_) (a' := ?_) #[true, true, true, true, true, true, true, true, true, true, true, true, true, true, true, true] rfl rfl (by kernel_rfl) (fun _ _ _ h => h) (Or.inl ⟨by rfl, ?_⟩) ?_ ?_
  rotate_left
  · intro w'
    go_simp
    with_reducible rfl
  rotate_left
  · simp only [Act.put, List.setIfInBounds_toArray, List.set_cons_zero, List.set_cons_succ, i64_w, i32_w]
    rfl
  refine done_ (by kernel_rfl) ?_
  go_wp2
  go_ret
  exact ⟨rfl, HB7.out⟩
set_option maxHeartbeats 8000000 in
set_option maxRecDepth 100000 in
theorem li_more {k : Nat} (hb : BdI t) (hv : MIT m (itCells kd nm tx ak nk ck a1 n1 c1 a2 n2 c2) t) (hm : MLe m w.cell?) (hkd : t.kind = 5) (hk : ¬k < t.kids.length) (hm1 : t.more.length = 1) :
    Calls Tryz.prog 4 #[.agg #[.int .i64 kd, .string t.name, .string t.text, .slice ak nk ck, .slice a1 n1 c1, .slice a2 n2 c2], .int .i64 k] w (LawQ w) := by
  have HF := Lib.hid (fun (W : World) (h : MLe m W.cell?) => show Calls Tryz.prog 10 #[.agg #[.int .i64 kd, .string nm, .string tx, .slice ak nk ck, .slice a1 n1 c1, .slice a2 n2 c2]] W (SomeB W) from zzFits1_any hb hv h)
  have HPR := Lib.hid (fun (W : World) (b : Nat) (h : MLe m W.cell?) (hx : W.heap[b]? = some (.cells #[.int .i64 kd, .string nm, .string tx, .slice ak nk ck, .slice a1 n1 c1, .slice a2 n2 c2] 25 (0, 0))) => show Calls Tryz.prog 12 #[.slice (some ⟨b, 0, none⟩) 1 1] W (PrpQ t W) from proper1 hb hv h hx)
  have HM := Lib.hid hm
  have HV := Lib.hid hv
  clear hb hm hv
  have hm0 : 0 < t.more.length := by omega
  obtain ⟨rfl, rfl, rfl, rfl, rfl, rfl, ⟨lk1, lk2⟩, ⟨l11, l12⟩, ⟨l21, l22⟩, rk, r1, r2⟩ := HV.out.open
  obtain ⟨rb, off, qd, qn, qt, qk, qnk, qck, q1, qn1, qc1, q2, qn2, qc2, rfl, q0, q1', q2', q3, q4, q5, hq⟩ := r2.at hm0
  have Q0 := Lib.hid q0
  have Q1 := Lib.hid q1'
  have Q2 := Lib.hid q2'
  have Q3 := Lib.hid q3
  have Q4 := Lib.hid q4
  have Q5 := Lib.hid q5
  have HQ := Lib.hid hq
  clear rk r1 r2 q0 q1' q2' q3 q4 q5 hq
  simp only [Nat.zero_mul, Nat.add_zero] at Q0 Q1 Q2 Q3 Q4 Q5
  rw [hkd, hm1] at HPR HF HV ⊢
  have HKD := Lib.hid hkd
  have HM0 := Lib.hid hm0
  clear hkd hm1
  have hx : decide ((k : Int) < (t.kids.length : Int)) = false := by simp; omega
  have hx2 : decide (k < t.kids.length) = false := by simp; omega
  go_enter Tryz.func4, Tryz.ntmps4
  go_wp2_with (first
    | (go_at_call 10; refine (HF.out _ (mle_alloc HM.out _)).mono ?_; rintro e w1 ⟨b, rfl, hg⟩; have HX := Lib.hid (bl_heap hg.below (al_new rfl)); have HB1 := Lib.hid (bl_trans (bl_alloc (Below.refl _ _) _) hg.below); obtain ⟨x0, x1, x2, x3, x4, x5⟩ := cells6 HX.out; have x6 := lt_blk HX.out; cases b <;> clear hg)
    | (go_at_call 12; refine (HPR.out _ _ (mle_alloc (HM.out.trans (mle_below HB1.out)) _) (al_new rfl)).mono ?_; rintro e w2 ⟨b, rfl, hp, hb2⟩; have HPP := Lib.hid hp; have HB2 := Lib.hid (bl_trans (bl_alloc HB1.out _) hb2); have HX2 := Lib.hid (bl_heap hb2 (al_old HX.out)); clear hp hb2 x0 x1 x2 x3 x4 x5 x6; obtain ⟨x0, x1, x2, x3, x4, x5⟩ := cells6 HX2.out; have x6 := lt_blk HX2.out; cases b)
    | (go_at_call 17; refine (works_any _).mono ?_; rintro e w4 ⟨rfl, hg4⟩; have HB4 := Lib.hid (bl_trans HB2.out hg4.below); clear hg4))
  all_goals first | (go_ret; first | exact ⟨rfl, HB4.out⟩ | exact ⟨rfl, HB1.out⟩) | skip
  rename 0 ≤ (k : Int) ∧ (k : Int) ≤ 100 => h100
  have hk100 : k ≤ 100 := by omega
  obtain ⟨hw5, hpt⟩ := HPP.out (by simp)
  have hbt := pt_bt hpt
  have HBK := Lib.hid (bt_kid hbt (.inr (List.getElem_mem HM0.out)))
  have HWK := Lib.hid (Nat.le_trans (wi_kid (.inr (List.getElem_mem HM0.out))) hw5)
  have HSEL := Lib.hid (fun (W : World) (vt : ByteArray) (ht : vt.data.toList = digs k) (h : MLe m W.cell?) => show Calls Tryz.prog 21 #[.agg #[.int .i64 5, .string t.name, .string t.text, .slice ak t.keys.length ck, .slice a1 t.kids.length c1, .slice (some ⟨rb, off, none⟩) 1 c2], .agg #[.int .i64 3, .string vt, .slice none 0 0, .slice none 0 0]] W (SeQ (· = some (nrm (toS (t.more[0]'HM0.out)))) W) from sel21_arr HV.out hbt hw5 HKD.out (by omega) (.inr (List.getElem_mem HM0.out)) (arr_more hk HM0.out) ht h)
  clear hw5 hpt hbt
  have HM2 := Lib.hid (HM.out.trans (mle_below HB2.out))
  clear x0 x1 x2 x3 x4 x5 x6
  refine start_ (n := 15) (S := fun w' => w'.cell? ⟨w.heap.size, 0, none⟩ = some (.int .i64 5) ∧ w'.cell? ⟨w.heap.size, 1, none⟩ = some (.string t.name) ∧ w'.cell? ⟨w.heap.size, 2, none⟩ = some (.string t.text) ∧ w'.cell? ⟨w.heap.size, 3, none⟩ = some (.slice ak t.keys.length ck) ∧ w'.cell? ⟨w.heap.size, 4, none⟩ = some (.slice a1 t.kids.length c1) ∧ w'.cell? ⟨w.heap.size, 5, none⟩ = some (.slice (some ⟨rb, off, none⟩) 1 c2) ∧ w'.cell? ⟨rb, off, none⟩ = some (.int .i64 qd) ∧ w'.cell? ⟨rb, off + 1, none⟩ = some (.string qn) ∧ w'.cell? ⟨rb, off + 2, none⟩ = some (.string qt) ∧ w'.cell? ⟨rb, off + 3, none⟩ = some (.slice qk qnk qck) ∧ w'.cell? ⟨rb, off + 4, none⟩ = some (.slice q1 qn1 qc1) ∧ w'.cell? ⟨rb, off + 5, none⟩ = some (.slice q2 qn2 qc2)) (ds := []) #[false, false, false, false, false, false, false, false, false, false, false, false, false, false, false] (by kernel_rfl) rfl rfl ⟨cell_blk HX2.out 0 rfl, cell_blk HX2.out 1 rfl, cell_blk HX2.out 2 rfl, cell_blk HX2.out 3 rfl, cell_blk HX2.out 4 rfl, cell_blk HX2.out 5 rfl, HM2.out _ _ Q0.out, HM2.out _ _ Q1.out, HM2.out _ _ Q2.out, HM2.out _ _ Q3.out, HM2.out _ _ Q4.out, HM2.out _ _ Q5.out⟩ (fun hHeld => ?_)
  refine pure_ (i := 1) (N := some 58) (v := ?_) (a' := ?_) #[false, true, false, false, false, false, false, false, false, false, false, false, false, false, false] rfl rfl (by kernel_rfl) (fun _ _ _ h => h) (Or.inl ⟨by rfl, ?_⟩) ?_ ?_
  rotate_left
  · intro w'
    go_simp
    with_reducible rfl
  rotate_left
  · simp only [Act.put, List.setIfInBounds_toArray, List.set_cons_zero, List.set_cons_succ, i64_w, i32_w]
    rfl
  refine pure_ (i := 5) (N := some 62) (v := ?_) (a' := ?_) #[false, true, false, false, false, true, false, false, false, false, false, false, false, false, false] rfl rfl (by kernel_rfl) (fun _ _ _ h => h) (Or.inl ⟨by rfl, ?_⟩) ?_ ?_
  rotate_left
  · intro w'
    go_simp
    with_reducible rfl
  rotate_left
  · simp only [Act.put, List.setIfInBounds_toArray, List.set_cons_zero, List.set_cons_succ, i64_w, i32_w]
    rfl
  refine take_ (i := 0) (N := some 57) (v := ?_) (a' := ?_) #[true, true, false, false, false, true, false, false, false, false, false, false, false, false, false] rfl rfl (by kernel_rfl) (fun _ _ _ h => h) (Or.inl ⟨by rfl, ?_⟩) hHeld ?_ ?_
  rotate_left
  · rintro w' ⟨s0, s1, s2, s3, s4, s5, s6, s7, s8, s9, s10, s11⟩
    go_simp
    with_reducible rfl
  rotate_left
  · simp only [Act.put, List.setIfInBounds_toArray, List.set_cons_zero, List.set_cons_succ, i64_w, i32_w]
    rfl
  refine take_ (i := 6) (N := some 63) (v := ?_) (a' := ?_) #[true, true, false, false, false, true, true, false, false, false, false, false, false, false, false] rfl rfl (by kernel_rfl) (fun _ _ _ h => h) (Or.inl ⟨by rfl, ?_⟩) hHeld ?_ ?_
  rotate_left
  · rintro w' ⟨s0, s1, s2, s3, s4, s5, s6, s7, s8, s9, s10, s11⟩
    go_simp
    with_reducible rfl
  rotate_left
  · simp only [Act.put, List.setIfInBounds_toArray, List.set_cons_zero, List.set_cons_succ, i64_w, i32_w]
    rfl
  refine pure_ (i := 7) (N := some 64) (v := ?_) (a' := ?_) #[true, true, false, false, false, true, true, true, false, false, false, false, false, false, false] rfl rfl (by kernel_rfl) (fun _ _ _ h => h) (Or.inl ⟨by rfl, ?_⟩) ?_ ?_
  rotate_left
  · intro w'
    go_simp
    with_reducible rfl
  rotate_left
  · simp only [Act.put, List.setIfInBounds_toArray, List.set_cons_zero, List.set_cons_succ, i64_w, i32_w]
    rfl
  refine take_ (i := 8) (N := some 65) (v := ?_) (a' := ?_) #[true, true, false, false, false, true, true, true, true, false, false, false, false, false, false] rfl rfl (by kernel_rfl) (fun _ _ _ h => h) (Or.inl ⟨by rfl, ?_⟩) hHeld ?_ ?_
  rotate_left
  · rintro w' ⟨s0, s1, s2, s3, s4, s5, s6, s7, s8, s9, s10, s11⟩
    go_simp
    with_reducible rfl
  rotate_left
  · simp only [Act.put, List.setIfInBounds_toArray, List.set_cons_zero, List.set_cons_succ, i64_w, i32_w]
    rfl
  refine one_ (i := 2) (N := some 59) #[true, true, true, false, false, true, true, true, true, false, false, false, false, false, false] rfl rfl (by kernel_rfl) (by decide) (fun K hK => ?_)
  refine goes_ Tryz.func24 (by kernel_rfl) rfl #[.int .i64 k] (by rfl) rfl rfl (by simp only [List.map_toArray, List.map_cons, List.map_nil]; rfl) ?_
  with_reducible refine (num_any k (by omega) _).mono ?_
  rintro e w3 ⟨vt, rfl, hvt, hg⟩
  refine ⟨_, rfl, ?_⟩
  have HVT := Lib.hid hvt
  have HB3 := Lib.hid (bl_trans HB2.out.drew hg.below)
  have HX3 := Lib.hid (bl_heap hg.below HX2.out)
  have HM3 := Lib.hid (HM.out.trans (mle_below HB3.out))
  clear hvt hg
  refine hK.out _ _ ⟨cell_blk HX3.out 0 rfl, cell_blk HX3.out 1 rfl, cell_blk HX3.out 2 rfl, cell_blk HX3.out 3 rfl, cell_blk HX3.out 4 rfl, cell_blk HX3.out 5 rfl, HM3.out _ _ Q0.out, HM3.out _ _ Q1.out, HM3.out _ _ Q2.out, HM3.out _ _ Q3.out, HM3.out _ _ Q4.out, HM3.out _ _ Q5.out⟩ (fun hHeld => ?_)
  clear hK K
  refine norm_ (a' := ?_) ?_ ?_
  rotate_left
  · show Act.put _ (some 59) _ = _
    simp only [Act.put, List.setIfInBounds_toArray, List.set_cons_zero, List.set_cons_succ, i64_w, i32_w]
    rfl
  refine pure_ (i := 3) (N := some 60) (v := ?_) (a' := ?_) #[true, true, true, true, false, true, true, true, true, false, false, false, false, false, false] rfl rfl (by kernel_rfl) (fun _ _ _ h => h) (Or.inl ⟨by rfl, ?_⟩) ?_ ?_
  rotate_left
  · intro w'
    go_simp
    with_reducible rfl
  rotate_left
  · simp only [Act.put, List.setIfInBounds_toArray, List.set_cons_zero, List.set_cons_succ, i64_w, i32_w]
    rfl
  refine one_ (i := 4) (N := some 61) #[true, true, true, true, true, true, true, true, true, false, false, false, false, false, false] rfl rfl (by kernel_rfl) (by decide) (fun K hK => ?_)
  refine goes_ Tryz.func21 (by kernel_rfl) rfl #[.agg #[.int .i64 5, .string t.name, .string t.text, .slice ak t.keys.length ck, .slice a1 t.kids.length c1, .slice (some ⟨rb, off, none⟩) 1 c2], .agg #[.int .i64 3, .string vt, .slice none 0 0, .slice none 0 0]] (by rfl) rfl rfl (by simp only [List.map_toArray, List.map_cons, List.map_nil]; rfl) ?_
  with_reducible refine (HSEL.out _ _ HVT.out HM3.out).mono ?_
  rintro e w5 ⟨o, ho, ak5, nk5, ck5, a15, n15, c15, a25, n25, c25, rfl, hmv, hbl⟩
  refine ⟨_, rfl, ?_⟩
  have HO := Lib.hid ho
  have HMV := Lib.hid hmv
  have HB5 := Lib.hid (bl_trans HB3.out hbl)
  have HX5 := Lib.hid (bl_heap hbl HX3.out)
  have HM5 := Lib.hid (HM.out.trans (mle_below HB5.out))
  clear ho hmv hbl
  refine hK.out _ _ ⟨cell_blk HX5.out 0 rfl, cell_blk HX5.out 1 rfl, cell_blk HX5.out 2 rfl, cell_blk HX5.out 3 rfl, cell_blk HX5.out 4 rfl, cell_blk HX5.out 5 rfl, HM5.out _ _ Q0.out, HM5.out _ _ Q1.out, HM5.out _ _ Q2.out, HM5.out _ _ Q3.out, HM5.out _ _ Q4.out, HM5.out _ _ Q5.out⟩ (fun hHeld => ?_)
  clear hK K
  refine norm_ (a' := ?_) ?_ ?_
  rotate_left
  · show Act.put _ (some 61) _ = _
    simp only [Act.put, List.setIfInBounds_toArray, List.set_cons_zero, List.set_cons_succ, i64_w, i32_w]
    rfl
  refine one_ (i := 9) (N := some 66) #[true, true, true, true, true, true, true, true, true, true, false, false, false, false, false] rfl rfl (by kernel_rfl) (by decide) (fun K hK => ?_)
  refine goes_ Tryz.func23 (by kernel_rfl) rfl #[.agg #[.int .i64 (oI o).kind, .string ⟨#[]⟩, .string ⟨#[]⟩, .slice ak5 nk5 ck5, .slice a15 n15 c15, .slice a25 n25 c25], .agg #[.int .i64 qd, .string qn, .string qt, .slice qk qnk qck, .slice q1 qn1 qc1, .slice q2 qn2 qc2]] (by rfl) rfl rfl (by simp only [List.map_toArray, List.map_cons, List.map_nil]; rfl) ?_
  with_reducible refine (icmp_zero HO.out HMV.out HBK.out HWK.out (fr_le (m0_le _)) HQ.out HM5.out).mono ?_
  rintro e w6 ⟨rfl, hbl⟩
  refine ⟨_, rfl, ?_⟩
  have HB6 := Lib.hid (bl_trans HB5.out hbl)
  have HX6 := Lib.hid (bl_heap hbl HX5.out)
  have HM6 := Lib.hid (HM.out.trans (mle_below HB6.out))
  clear hbl
  refine hK.out _ _ ⟨cell_blk HX6.out 0 rfl, cell_blk HX6.out 1 rfl, cell_blk HX6.out 2 rfl, cell_blk HX6.out 3 rfl, cell_blk HX6.out 4 rfl, cell_blk HX6.out 5 rfl, HM6.out _ _ Q0.out, HM6.out _ _ Q1.out, HM6.out _ _ Q2.out, HM6.out _ _ Q3.out, HM6.out _ _ Q4.out, HM6.out _ _ Q5.out⟩ (fun hHeld => ?_)
  clear hK K
  refine norm_ (a' := ?_) ?_ ?_
  rotate_left
  · show Act.put _ (some 66) _ = _
    simp only [Act.put, List.setIfInBounds_toArray, List.set_cons_zero, List.set_cons_succ, i64_w, i32_w]
    rfl
  refine pure_ (i := 10) (N := some 67) (v := ?_) (a' := ?_) #[true, true, true, true, true, true, true, true, true, true, true, false, false, false, false] rfl rfl (by kernel_rfl) (fun _ _ _ h => h) (Or.inl ⟨by rfl, ?_⟩) ?_ ?_
  rotate_left
  · intro w'
    go_simp
    with_reducible rfl
  rotate_left
  · simp only [Act.put, List.setIfInBounds_toArray, List.set_cons_zero, List.set_cons_succ, i64_w, i32_w]
    rfl
  refine pure_ (i := 11) (N := some 68) (v := ?_) (a' := ?_) #[true, true, true, true, true, true, true, true, true, true, true, true, false, false, false] rfl rfl (by kernel_rfl) (fun _ _ _ h => h) (Or.inl ⟨by rfl, ?_⟩) ?_ ?_
  rotate_left
  · intro w'
    go_simp
    with_reducible rfl
  rotate_left
  · simp only [Act.put, List.setIfInBounds_toArray, List.set_cons_zero, List.set_cons_succ, i64_w, i32_w]
    rfl
  refine one_ (i := 12) (N := some 69) #[true, true, true, true, true, true, true, true, true, true, true, true, true, false, false] rfl rfl (by kernel_rfl) (by decide) (fun K hK => ?_)
  refine goes_ Tryz.func17 (by kernel_rfl) rfl #[] (by rfl) rfl rfl (by simp only [List.map_toArray, List.map_cons, List.map_nil]) ?_
  with_reducible refine (works_any w6).mono ?_
  rintro e w7 ⟨rfl, hg⟩
  refine ⟨_, rfl, ?_⟩
  have HB7 := Lib.hid (bl_trans HB6.out hg.below)
  have HX7 := Lib.hid (bl_heap hg.below HX6.out)
  have HM7 := Lib.hid (HM.out.trans (mle_below HB7.out))
  clear hg
  refine hK.out _ _ ⟨cell_blk HX7.out 0 rfl, cell_blk HX7.out 1 rfl, cell_blk HX7.out 2 rfl, cell_blk HX7.out 3 rfl, cell_blk HX7.out 4 rfl, cell_blk HX7.out 5 rfl, HM7.out _ _ Q0.out, HM7.out _ _ Q1.out, HM7.out _ _ Q2.out, HM7.out _ _ Q3.out, HM7.out _ _ Q4.out, HM7.out _ _ Q5.out⟩ (fun hHeld => ?_)
  clear hK K
  refine norm_ (a' := ?_) ?_ ?_
  rotate_left
  · show Act.put _ (some 69) _ = _
    simp only [Act.put, List.setIfInBounds_toArray, List.set_cons_zero, List.set_cons_succ, i64_w, i32_w]
    rfl
  refine pure_ (i := 13) (N := some 70) (v := ?_) (a' := ?_) #[true, true, true, true, true, true, true, true, true, true, true, true, true, true, false] rfl rfl (by kernel_rfl) (fun _ _ _ h => h) (Or.inl ⟨by rfl, ?_⟩) ?_ ?_
  rotate_left
  · intro w'
    go_simp
    with_reducible rfl
  rotate_left
  · simp only [Act.put, List.setIfInBounds_toArray, List.set_cons_zero, List.set_cons_succ, i64_w, i32_w]
    rfl
  refine pure_ (i := 14) (N := some 4) (v := ?_) (a' := ?_) #[true, true, true, true, true, true, true, true, true, true, true, true, true, true, true] rfl rfl (by kernel_rfl) (fun _ _ _ h => h) (Or.inl ⟨by rfl, ?_⟩) ?_ ?_
  rotate_left
  · intro w'
    go_simp
    with_reducible rfl
  rotate_left
  · simp only [Act.put, List.setIfInBounds_toArray, List.set_cons_zero, List.set_cons_succ, i64_w, i32_w]
    rfl
  refine done_ (by kernel_rfl) ?_
  go_wp2
  go_ret
  exact ⟨rfl, HB7.out⟩
set_option maxHeartbeats 8000000 in
set_option maxRecDepth 100000 in
theorem li_key {k : Nat} (hb : BdI t) (hv : MIT m (itCells kd nm tx ak nk ck a1 n1 c1 a2 n2 c2) t) (hm : MLe m w.cell?) (hkd : t.kind = 6) (hk : k < t.keys.length) (hk2 : k < t.kids.length) (h4 : t.keys[k].kind = 4) :
    Calls Tryz.prog 4 #[.agg #[.int .i64 kd, .string t.name, .string t.text, .slice ak nk ck, .slice a1 n1 c1, .slice a2 n2 c2], .int .i64 k] w (LawQ w) := by
  have HF := Lib.hid (fun (W : World) (h : MLe m W.cell?) => show Calls Tryz.prog 10 #[.agg #[.int .i64 kd, .string nm, .string tx, .slice ak nk ck, .slice a1 n1 c1, .slice a2 n2 c2]] W (SomeB W) from zzFits1_any hb hv h)
  have HPR := Lib.hid (fun (W : World) (b : Nat) (h : MLe m W.cell?) (hx : W.heap[b]? = some (.cells #[.int .i64 kd, .string nm, .string tx, .slice ak nk ck, .slice a1 n1 c1, .slice a2 n2 c2] 25 (0, 0))) => show Calls Tryz.prog 12 #[.slice (some ⟨b, 0, none⟩) 1 1] W (PrpQ t W) from proper1 hb hv h hx)
  have HM := Lib.hid hm
  have HV := Lib.hid hv
  clear hb hm hv
  obtain ⟨rfl, rfl, rfl, rfl, rfl, rfl, ⟨lk1, lk2⟩, ⟨l11, l12⟩, ⟨l21, l22⟩, rk, r1, r2⟩ := HV.out.open
  obtain ⟨rb, off, qd, qn, qt, qk, qnk, qck, q1, qn1, qc1, q2, qn2, qc2, rfl, q0, q1', q2', q3, q4, q5, hq⟩ := r1.at hk2
  have Q0 := Lib.hid q0
  have Q1 := Lib.hid q1'
  have Q2 := Lib.hid q2'
  have Q3 := Lib.hid q3
  have Q4 := Lib.hid q4
  have Q5 := Lib.hid q5
  have HQ := Lib.hid hq
  obtain ⟨kb, ko, rfl, k0, k1⟩ := rk.at hk
  rw [h4] at k0
  have QK0 := Lib.hid k0
  have QK := Lib.hid k1
  have H4 := Lib.hid h4
  clear k0 k1 h4
  clear rk r1 r2 q0 q1' q2' q3 q4 q5 hq
  rw [hkd] at HPR HF HV ⊢
  have HKD := Lib.hid hkd
  clear hkd
  have hx : decide ((k : Int) < (t.keys.length : Int)) = true := by simp; omega
  go_enter Tryz.func4, Tryz.ntmps4
  go_wp2_with (first
    | (go_at_call 10; refine (HF.out _ (mle_alloc HM.out _)).mono ?_; rintro e w1 ⟨b, rfl, hg⟩; have HX := Lib.hid (bl_heap hg.below (al_new rfl)); have HB1 := Lib.hid (bl_trans (bl_alloc (Below.refl _ _) _) hg.below); obtain ⟨x0, x1, x2, x3, x4, x5⟩ := cells6 HX.out; have x6 := lt_blk HX.out; cases b <;> clear hg)
    | (go_at_call 12; refine (HPR.out _ _ (mle_alloc (HM.out.trans (mle_below HB1.out)) _) (al_new rfl)).mono ?_; rintro e w2 ⟨b, rfl, hp, hb2⟩; have HPP := Lib.hid hp; have HB2 := Lib.hid (bl_trans (bl_alloc HB1.out _) hb2); have HX2 := Lib.hid (bl_heap hb2 (al_old HX.out)); clear hp hb2 x0 x1 x2 x3 x4 x5 x6; obtain ⟨x0, x1, x2, x3, x4, x5⟩ := cells6 HX2.out; have x6 := lt_blk HX2.out; have xk := (HM.out.trans (mle_below HB2.out)) _ _ QK0.out; have xk1 := lt_blk HX2.out; cases b)
    | (go_at_call 17; refine (works_any _).mono ?_; rintro e w4 ⟨rfl, hg4⟩; have HB4 := Lib.hid (bl_trans HB2.out hg4.below); clear hg4))
  all_goals first | (go_ret; first | exact ⟨rfl, HB4.out⟩ | exact ⟨rfl, HB1.out⟩) | skip
  rename 0 ≤ (k : Int) ∧ (k : Int) ≤ 100 => h100
  have hk100 : k ≤ 100 := by omega
  obtain ⟨hw5, hpt⟩ := HPP.out (by simp)
  have hbt := pt_bt hpt
  have HBK := Lib.hid (bt_kid hbt (.inl (List.getElem_mem hk2)))
  have HWK := Lib.hid (Nat.le_trans (wi_kid (.inl (List.getElem_mem hk2))) hw5)
  have HSEL := Lib.hid (fun (W : World) (h : MLe m W.cell?) => show Calls Tryz.prog 21 #[.agg #[.int .i64 6, .string t.name, .string t.text, .slice (some ⟨kb, ko, none⟩) t.keys.length ck, .slice (some ⟨rb, off, none⟩) t.kids.length c1, .slice a2 t.more.length c2], .agg #[.int .i64 4, .string t.keys[k].text, .slice none 0 0, .slice none 0 0]] W (SeQ (· = some (nrm (toS t.kids[k]))) W) from sel21_obj HV.out hbt hw5 HKD.out hk hk2 H4.out h)
  clear hw5 hpt hbt
  have HM2 := Lib.hid (HM.out.trans (mle_below HB2.out))
  clear x0 x1 x2 x3 x4 x5 x6
  clear xk xk1
  refine start_ (n := 20) (S := fun w' => w'.cell? ⟨w.heap.size, 0, none⟩ = some (.int .i64 6) ∧ w'.cell? ⟨w.heap.size, 1, none⟩ = some (.string t.name) ∧ w'.cell? ⟨w.heap.size, 2, none⟩ = some (.string t.text) ∧ w'.cell? ⟨w.heap.size, 3, none⟩ = some (.slice (some ⟨kb, ko, none⟩) t.keys.length ck) ∧ w'.cell? ⟨w.heap.size, 4, none⟩ = some (.slice (some ⟨rb, off, none⟩) t.kids.length c1) ∧ w'.cell? ⟨w.heap.size, 5, none⟩ = some (.slice a2 t.more.length c2) ∧ w'.cell? ⟨rb, off + k * 6, none⟩ = some (.int .i64 qd) ∧ w'.cell? ⟨rb, off + k * 6 + 1, none⟩ = some (.string qn) ∧ w'.cell? ⟨rb, off + k * 6 + 2, none⟩ = some (.string qt) ∧ w'.cell? ⟨rb, off + k * 6 + 3, none⟩ = some (.slice qk qnk qck) ∧ w'.cell? ⟨rb, off + k * 6 + 4, none⟩ = some (.slice q1 qn1 qc1) ∧ w'.cell? ⟨rb, off + k * 6 + 5, none⟩ = some (.slice q2 qn2 qc2) ∧ w'.cell? ⟨kb, ko + k * 2 + 1, none⟩ = some (.string t.keys[k].text)) (ds := []) #[false, false, false, false, false, false, false, false, false, false, false, false, false, false, false, false, false, false, false, false] (by kernel_rfl) rfl rfl ⟨cell_blk HX2.out 0 rfl, cell_blk HX2.out 1 rfl, cell_blk HX2.out 2 rfl, cell_blk HX2.out 3 rfl, cell_blk HX2.out 4 rfl, cell_blk HX2.out 5 rfl, HM2.out _ _ Q0.out, HM2.out _ _ Q1.out, HM2.out _ _ Q2.out, HM2.out _ _ Q3.out, HM2.out _ _ Q4.out, HM2.out _ _ Q5.out, HM2.out _ _ QK.out⟩ (fun hHeld => ?_)
  refine pure_ (i := 1) (N := some 92) (v := ?_) (a' := ?_) #[false, true, false, false, false, false, false, false, false, false, false, false, false, false, false, false, false, false, false, false] rfl rfl (by kernel_rfl) (fun _ _ _ h => h) (Or.inl ⟨by rfl, ?_⟩) ?_ ?_
  rotate_left
  · intro w'
    go_simp
    with_reducible rfl
  rotate_left
  · simp only [Act.put, List.setIfInBounds_toArray, List.set_cons_zero, List.set_cons_succ, i64_w, i32_w]
    rfl
  refine pure_ (i := 3) (N := some 94) (v := ?_) (a' := ?_) #[false, true, false, true, false, false, false, false, false, false, false, false, false, false, false, false, false, false, false, false] rfl rfl (by kernel_rfl) (fun _ _ _ h => h) (Or.inl ⟨by rfl, ?_⟩) ?_ ?_
  rotate_left
  · intro w'
    go_simp
    with_reducible rfl
  rotate_left
  · simp only [Act.put, List.setIfInBounds_toArray, List.set_cons_zero, List.set_cons_succ, i64_w, i32_w]
    rfl
  refine pure_ (i := 9) (N := some 100) (v := ?_) (a' := ?_) #[false, true, false, true, false, false, false, false, false, true, false, false, false, false, false, false, false, false, false, false] rfl rfl (by kernel_rfl) (fun _ _ _ h => h) (Or.inl ⟨by rfl, ?_⟩) ?_ ?_
  rotate_left
  · intro w'
    go_simp
    with_reducible rfl
  rotate_left
  · simp only [Act.put, List.setIfInBounds_toArray, List.set_cons_zero, List.set_cons_succ, i64_w, i32_w]
    rfl
  refine pure_ (i := 11) (N := some 102) (v := ?_) (a' := ?_) #[false, true, false, true, false, false, false, false, false, true, false, true, false, false, false, false, false, false, false, false] rfl rfl (by kernel_rfl) (fun _ _ _ h => h) (Or.inl ⟨by rfl, ?_⟩) ?_ ?_
  rotate_left
  · intro w'
    go_simp
    with_reducible rfl
  rotate_left
  · simp only [Act.put, List.setIfInBounds_toArray, List.set_cons_zero, List.set_cons_succ, i64_w, i32_w]
    rfl
  refine take_ (i := 0) (N := some 91) (v := ?_) (a' := ?_) #[true, true, false, true, false, false, false, false, false, true, false, true, false, false, false, false, false, false, false, false] rfl rfl (by kernel_rfl) (fun _ _ _ h => h) (Or.inl ⟨by rfl, ?_⟩) hHeld ?_ ?_
  rotate_left
  · rintro w' ⟨s0, s1, s2, s3, s4, s5, s6, s7, s8, s9, s10, s11, s12⟩
    go_simp
    with_reducible rfl
  rotate_left
  · simp only [Act.put, List.setIfInBounds_toArray, List.set_cons_zero, List.set_cons_succ, i64_w, i32_w]
    rfl
  refine take_ (i := 2) (N := some 93) (v := ?_) (a' := ?_) #[true, true, true, true, false, false, false, false, false, true, false, true, false, false, false, false, false, false, false, false] rfl rfl (by kernel_rfl) (fun _ _ _ h => h) (Or.inl ⟨by rfl, ?_⟩) hHeld ?_ ?_
  rotate_left
  · rintro w' ⟨s0, s1, s2, s3, s4, s5, s6, s7, s8, s9, s10, s11, s12⟩
    go_simp
    with_reducible rfl
  rotate_left
  · simp only [Act.put, List.setIfInBounds_toArray, List.set_cons_zero, List.set_cons_succ, i64_w, i32_w]
    rfl
  refine pure_ (i := 4) (N := some 95) (v := ?_) (a' := ?_) #[true, true, true, true, true, false, false, false, false, true, false, true, false, false, false, false, false, false, false, false] rfl rfl (by kernel_rfl) (fun _ _ _ h => h) (Or.inl ⟨by rfl, ?_⟩) ?_ ?_
  rotate_left
  · intro w'
    go_simp
    with_reducible rfl
  rotate_left
  · simp only [Act.put, List.setIfInBounds_toArray, List.set_cons_zero, List.set_cons_succ, i64_w, i32_w]
    rfl
  refine pure_ (i := 5) (N := some 96) (v := ?_) (a' := ?_) #[true, true, true, true, true, true, false, false, false, true, false, true, false, false, false, false, false, false, false, false] rfl rfl (by kernel_rfl) (fun _ _ _ h => h) (Or.inl ⟨by rfl, ?_⟩) ?_ ?_
  rotate_left
  · intro w'
    go_simp
    with_reducible rfl
  rotate_left
  · simp only [Act.put, List.setIfInBounds_toArray, List.set_cons_zero, List.set_cons_succ, i64_w, i32_w]
    rfl
  refine take_ (i := 6) (N := some 97) (v := ?_) (a' := ?_) #[true, true, true, true, true, true, true, false, false, true, false, true, false, false, false, false, false, false, false, false] rfl rfl (by kernel_rfl) (fun _ _ _ h => h) (Or.inl ⟨by rfl, ?_⟩) hHeld ?_ ?_
  rotate_left
  · rintro w' ⟨s0, s1, s2, s3, s4, s5, s6, s7, s8, s9, s10, s11, s12⟩
    go_simp
    with_reducible rfl
  rotate_left
  · simp only [Act.put, List.setIfInBounds_toArray, List.set_cons_zero, List.set_cons_succ, i64_w, i32_w]
    rfl
  refine pure_ (i := 7) (N := some 98) (v := ?_) (a' := ?_) #[true, true, true, true, true, true, true, true, false, true, false, true, false, false, false, false, false, false, false, false] rfl rfl (by kernel_rfl) (fun _ _ _ h => h) (Or.inl ⟨by rfl, ?_⟩) ?_ ?_
  rotate_left
  · intro w'
    go_simp
    with_reducible rfl
  rotate_left
  · simp only [Act.put, List.setIfInBounds_toArray, List.set_cons_zero, List.set_cons_succ, i64_w, i32_w]
    rfl
  refine take_ (i := 10) (N := some 101) (v := ?_) (a' := ?_) #[true, true, true, true, true, true, true, true, false, true, true, true, false, false, false, false, false, false, false, false] rfl rfl (by kernel_rfl) (fun _ _ _ h => h) (Or.inl ⟨by rfl, ?_⟩) hHeld ?_ ?_
  rotate_left
  · rintro w' ⟨s0, s1, s2, s3, s4, s5, s6, s7, s8, s9, s10, s11, s12⟩
    go_simp
    with_reducible rfl
  rotate_left
  · simp only [Act.put, List.setIfInBounds_toArray, List.set_cons_zero, List.set_cons_succ, i64_w, i32_w]
    rfl
  refine pure_ (i := 12) (N := some 103) (v := ?_) (a' := ?_) #[true, true, true, true, true, true, true, true, false, true, true, true, true, false, false, false, false, false, false, false] rfl rfl (by kernel_rfl) (fun _ _ _ h => h) (Or.inl ⟨by rfl, ?_⟩) ?_ ?_
  rotate_left
  · intro w'
    go_simp
    with_reducible rfl
  rotate_left
  · simp only [Act.put, List.setIfInBounds_toArray, List.set_cons_zero, List.set_cons_succ, i64_w, i32_w]
    rfl
  refine take_ (i := 13) (N := some 104) (v := ?_) (a' := ?_) #[true, true, true, true, true, true, true, true, false, true, true, true, true, true, false, false, false, false, false, false] rfl rfl (by kernel_rfl) (fun _ _ _ h => h) (Or.inl ⟨by rfl, ?_⟩) hHeld ?_ ?_
  rotate_left
  · rintro w' ⟨s0, s1, s2, s3, s4, s5, s6, s7, s8, s9, s10, s11, s12⟩
    go_simp
    with_reducible rfl
  rotate_left
  · simp only [Act.put, List.setIfInBounds_toArray, List.set_cons_zero, List.set_cons_succ, i64_w, i32_w]
    rfl
  refine one_ (i := 8) (N := some 99) #[true, true, true, true, true, true, true, true, true, true, true, true, true, true, false, false, false, false, false, false] rfl rfl (by kernel_rfl) (by decide) (fun K hK => ?_)
  refine goes_ Tryz.func21 (by kernel_rfl) rfl #[.agg #[.int .i64 6, .string t.name, .string t.text, .slice (some ⟨kb, ko, none⟩) t.keys.length ck, .slice (some ⟨rb, off, none⟩) t.kids.length c1, .slice a2 t.more.length c2], .agg #[.int .i64 4, .string t.keys[k].text, .slice none 0 0, .slice none 0 0]] (by rfl) rfl rfl (by simp only [List.map_toArray, List.map_cons, List.map_nil]; rfl) ?_
  with_reducible refine (HSEL.out _ (mle_drew HM2.out)).mono ?_
  rintro e w5 ⟨o, ho, ak5, nk5, ck5, a15, n15, c15, a25, n25, c25, rfl, hmv, hbl⟩
  refine ⟨_, rfl, ?_⟩
  have HO := Lib.hid ho
  have HMV := Lib.hid hmv
  have HB5 := Lib.hid (bl_trans HB2.out.drew hbl)
  have HX5 := Lib.hid (bl_heap hbl HX2.out)
  have HM5 := Lib.hid (HM.out.trans (mle_below HB5.out))
  clear ho hmv hbl
  refine hK.out _ _ ⟨cell_blk HX5.out 0 rfl, cell_blk HX5.out 1 rfl, cell_blk HX5.out 2 rfl, cell_blk HX5.out 3 rfl, cell_blk HX5.out 4 rfl, cell_blk HX5.out 5 rfl, HM5.out _ _ Q0.out, HM5.out _ _ Q1.out, HM5.out _ _ Q2.out, HM5.out _ _ Q3.out, HM5.out _ _ Q4.out, HM5.out _ _ Q5.out, HM5.out _ _ QK.out⟩ (fun hHeld => ?_)
  clear hK K
  refine norm_ (a' := ?_) ?_ ?_
  rotate_left
  · show Act.put _ (some 99) _ = _
    simp only [Act.put, List.setIfInBounds_toArray, List.set_cons_zero, List.set_cons_succ, i64_w, i32_w]
    rfl
  refine one_ (i := 14) (N := some 105) #[true, true, true, true, true, true, true, true, true, true, true, true, true, true, true, false, false, false, false, false] rfl rfl (by kernel_rfl) (by decide) (fun K hK => ?_)
  refine goes_ Tryz.func23 (by kernel_rfl) rfl #[.agg #[.int .i64 (oI o).kind, .string ⟨#[]⟩, .string ⟨#[]⟩, .slice ak5 nk5 ck5, .slice a15 n15 c15, .slice a25 n25 c25], .agg #[.int .i64 qd, .string qn, .string qt, .slice qk qnk qck, .slice q1 qn1 qc1, .slice q2 qn2 qc2]] (by rfl) rfl rfl (by simp only [List.map_toArray, List.map_cons, List.map_nil]; rfl) ?_
  with_reducible refine (icmp_zero HO.out HMV.out HBK.out HWK.out (fr_le (m0_le _)) HQ.out HM5.out).mono ?_
  rintro e w6 ⟨rfl, hbl⟩
  refine ⟨_, rfl, ?_⟩
  have HB6 := Lib.hid (bl_trans HB5.out hbl)
  have HX6 := Lib.hid (bl_heap hbl HX5.out)
  have HM6 := Lib.hid (HM.out.trans (mle_below HB6.out))
  clear hbl
  refine hK.out _ _ ⟨cell_blk HX6.out 0 rfl, cell_blk HX6.out 1 rfl, cell_blk HX6.out 2 rfl, cell_blk HX6.out 3 rfl, cell_blk HX6.out 4 rfl, cell_blk HX6.out 5 rfl, HM6.out _ _ Q0.out, HM6.out _ _ Q1.out, HM6.out _ _ Q2.out, HM6.out _ _ Q3.out, HM6.out _ _ Q4.out, HM6.out _ _ Q5.out, HM6.out _ _ QK.out⟩ (fun hHeld => ?_)
  clear hK K
  refine norm_ (a' := ?_) ?_ ?_
  rotate_left
  · show Act.put _ (some 105) _ = _
    simp only [Act.put, List.setIfInBounds_toArray, List.set_cons_zero, List.set_cons_succ, i64_w, i32_w]
    rfl
  refine pure_ (i := 15) (N := some 106) (v := ?_) (a' := ?_) #[true, true, true, true, true, true, true, true, true, true, true, true, true, true, true, true, false, false, false, false] rfl rfl (by kernel_rfl) (fun _ _ _ h => h) (Or.inl ⟨by rfl, ?_⟩) ?_ ?_
  rotate_left
  · intro w'
    go_simp
    with_reducible rfl
  rotate_left
  · simp only [Act.put, List.setIfInBounds_toArray, List.set_cons_zero, List.set_cons_succ, i64_w, i32_w]
    rfl
  refine pure_ (i := 16) (N := some 107) (v := ?_) (a' := ?_) #[true, true, true, true, true, true, true, true, true, true, true, true, true, true, true, true, true, false, false, false] rfl rfl (by kernel_rfl) (fun _ _ _ h => h) (Or.inl ⟨by rfl, ?_⟩) ?_ ?_
  rotate_left
  · intro w'
    go_simp
    with_reducible rfl
  rotate_left
  · simp only [Act.put, List.setIfInBounds_toArray, List.set_cons_zero, List.set_cons_succ, i64_w, i32_w]
    rfl
  refine one_ (i := 17) (N := some 108) #[true, true, true, true, true, true, true, true, true, true, true, true, true, true, true, true, true, true, false, false] rfl rfl (by kernel_rfl) (by decide) (fun K hK => ?_)
  refine goes_ Tryz.func17 (by kernel_rfl) rfl #[] (by rfl) rfl rfl (by simp only [List.map_toArray, List.map_cons, List.map_nil]) ?_
  with_reducible refine (works_any w6).mono ?_
  rintro e w7 ⟨rfl, hg⟩
  refine ⟨_, rfl, ?_⟩
  have HB7 := Lib.hid (bl_trans HB6.out hg.below)
  have HX7 := Lib.hid (bl_heap hg.below HX6.out)
  have HM7 := Lib.hid (HM.out.trans (mle_below HB7.out))
  clear hg
  refine hK.out _ _ ⟨cell_blk HX7.out 0 rfl, cell_blk HX7.out 1 rfl, cell_blk HX7.out 2 rfl, cell_blk HX7.out 3 rfl, cell_blk HX7.out 4 rfl, cell_blk HX7.out 5 rfl, HM7.out _ _ Q0.out, HM7.out _ _ Q1.out, HM7.out _ _ Q2.out, HM7.out _ _ Q3.out, HM7.out _ _ Q4.out, HM7.out _ _ Q5.out, HM7.out _ _ QK.out⟩ (fun hHeld => ?_)
  clear hK K
  refine norm_ (a' := ?_) ?_ ?_
  rotate_left
  · show Act.put _ (some 108) _ = _
    simp only [Act.put, List.setIfInBounds_toArray, List.set_cons_zero, List.set_cons_succ, i64_w, i32_w]
    rfl
  refine pure_ (i := 18) (N := some 109) (v := ?_) (a' := ?_) #[true, true, true, true, true, true, true, true, true, true, true, true, true, true, true, true, true, true, true, false] rfl rfl (by kernel_rfl) (fun _ _ _ h => h) (Or.inl ⟨by rfl, ?_⟩) ?_ ?_
  rotate_left
  · intro w'
    go_simp
    with_reducible rfl
  rotate_left
  · simp only [Act.put, List.setIfInBounds_toArray, List.set_cons_zero, List.set_cons_succ, i64_w, i32_w]
    rfl
  refine pure_ (i := 19) (N := some 4) (v := ?_) (a' := ?_) #[true, true, true, true, true, true, true, true, true, true, true, true, true, true, true, true, true, true, true, true] rfl rfl (by kernel_rfl) (fun _ _ _ h => h) (Or.inl ⟨by rfl, ?_⟩) ?_ ?_
  rotate_left
  · intro w'
    go_simp
    with_reducible rfl
  rotate_left
  · simp only [Act.put, List.setIfInBounds_toArray, List.set_cons_zero, List.set_cons_succ, i64_w, i32_w]
    rfl
  refine done_ (by kernel_rfl) ?_
  go_wp2
  go_ret
  exact ⟨rfl, HB7.out⟩
set_option maxHeartbeats 4000000 in
set_option maxRecDepth 100000 in
theorem li_nokey {k : Nat} (hb : BdI t) (hv : MIT m (itCells kd nm tx ak nk ck a1 n1 c1 a2 n2 c2) t) (hm : MLe m w.cell?) (hkd : t.kind = 6) (hk : k < t.keys.length) (h4 : (t.keys[k].kind == 4) = false) :
    Calls Tryz.prog 4 #[.agg #[.int .i64 kd, .string nm, .string tx, .slice ak nk ck, .slice a1 n1 c1, .slice a2 n2 c2], .int .i64 k] w (LawQ w) := by
  have HF := Lib.hid (fun (W : World) (h : MLe m W.cell?) => show Calls Tryz.prog 10 #[.agg #[.int .i64 kd, .string nm, .string tx, .slice ak nk ck, .slice a1 n1 c1, .slice a2 n2 c2]] W (SomeB W) from zzFits1_any hb hv h)
  have HPR := Lib.hid (fun (W : World) (b : Nat) (h : MLe m W.cell?) (hx : W.heap[b]? = some (.cells #[.int .i64 kd, .string nm, .string tx, .slice ak nk ck, .slice a1 n1 c1, .slice a2 n2 c2] 25 (0, 0))) => show Calls Tryz.prog 12 #[.slice (some ⟨b, 0, none⟩) 1 1] W (PrpQ t W) from proper1 hb hv h hx)
  have HM := Lib.hid hm
  have HV := Lib.hid hv
  clear hb hm hv
  obtain ⟨rfl, rfl, rfl, rfl, rfl, rfl, ⟨lk1, lk2⟩, ⟨l11, l12⟩, ⟨l21, l22⟩, rk, r1, r2⟩ := HV.out.open
  obtain ⟨kb, ko, rfl, k0, k1⟩ := rk.at hk
  have QK0 := Lib.hid k0
  clear k0 k1 rk r1 r2
  rw [hkd] at HPR HF HV ⊢
  clear hkd
  have hx : decide ((k : Int) < (t.keys.length : Int)) = true := by simp; omega
  go_enter Tryz.func4, Tryz.ntmps4
  go_wp2_with (first
    | (go_at_call 10; refine (HF.out _ (mle_alloc HM.out _)).mono ?_; rintro e w1 ⟨b, rfl, hg⟩; have HX := Lib.hid (bl_heap hg.below (al_new rfl)); have HB1 := Lib.hid (bl_trans (bl_alloc (Below.refl _ _) _) hg.below); obtain ⟨x0, x1, x2, x3, x4, x5⟩ := cells6 HX.out; have x6 := lt_blk HX.out; cases b <;> clear hg)
    | (go_at_call 12; refine (HPR.out _ _ (mle_alloc (HM.out.trans (mle_below HB1.out)) _) (al_new rfl)).mono ?_; rintro e w2 ⟨b, rfl, hp, hb2⟩; have HPP := Lib.hid hp; have HB2 := Lib.hid (bl_trans (bl_alloc HB1.out _) hb2); have HX2 := Lib.hid (bl_heap hb2 (al_old HX.out)); clear hp hb2 x0 x1 x2 x3 x4 x5 x6; obtain ⟨x0, x1, x2, x3, x4, x5⟩ := cells6 HX2.out; have x6 := lt_blk HX2.out; have xk := (HM.out.trans (mle_below HB2.out)) _ _ QK0.out; have xk1 := lt_blk HX2.out; cases b)
    | (go_at_call 17; refine (works_any _).mono ?_; rintro e w4 ⟨rfl, hg4⟩; have HB4 := Lib.hid (bl_trans HB2.out hg4.below); clear hg4))
  all_goals (go_ret; first | exact ⟨rfl, HB4.out⟩ | exact ⟨rfl, HB1.out⟩)
end Go.Proofs.YtaglgokeejjagaaGreat
