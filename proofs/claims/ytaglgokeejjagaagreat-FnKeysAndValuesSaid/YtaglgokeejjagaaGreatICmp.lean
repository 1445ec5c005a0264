/- 'Compare' of the thin package. -/
import Derived.Test.YtaglgokeejjagaaGreatBui3
namespace Go.Proofs.YtaglgokeejjagaaGreat
set_option linter.unusedVariables false
set_option linter.unusedSimpArgs false
open Go.RowKit Go.Sort Go.Proofs.YtaglgokeejjagaaGreatW.PrintLast

def IcQ (n : Int) (w : World) (e : Ending) (w' : World) : Prop := e = .returned (.int .i64 n) ∧ Below w.heap.size w w'
theorem compare_c {s s' : ST} {m : Mem} {x y : Value} {w : World} (h : RT m x s) (h' : RT m y s') (hm : MLe m (ucell w)) : Calls Tryz.prog 48 #[x, y] w (fun e w' => e = .returned (.int .i64 (cmpT s s')) ∧ Gr w w') := compare_any s s' m x y w h h' hm
theorem shaped_RT {m : Mem} {v : Value} {s : ST} (h : RT m v s) : ∃ T y, v = .iface T y := h.shape'
set_option maxHeartbeats 4000000 in
set_option maxRecDepth 100000 in
theorem icmp_any {t t' : IT} {m m' : Mem} {kd kd' : Int} {nm tx nm' tx' : ByteArray} {ak a1 a2 ak' a1' a2' : Option Addr} {nk ck n1 c1 n2 c2 nk' ck' n1' c1' n2' c2' : Nat} {w : World} (hv : MIT m (itCells kd nm tx ak nk ck a1 n1 c1 a2 n2 c2) t) (hb : BT (toS t)) (hw : WI t ≤ 100000) (hm : MLe m w.cell?)
    (hv' : MIT m' (itCells kd' nm' tx' ak' nk' ck' a1' n1' c1' a2' n2' c2') t') (hb' : BT (toS t')) (hw' : WI t' ≤ 100000) (hm' : MLe m' w.cell?) :
    Calls Tryz.prog 23 #[.agg #[.int .i64 kd, .string nm, .string tx, .slice ak nk ck, .slice a1 n1 c1, .slice a2 n2 c2], .agg #[.int .i64 kd', .string nm', .string tx', .slice ak' nk' ck', .slice a1' n1' c1', .slice a2' n2' c2']] w (IcQ (cmpT (nrm (toS t)) (nrm (toS t'))) w) := by
  have HA := Lib.hid (fun W hW => built_any t m _ _ _ _ _ _ _ _ _ _ _ _ W hv hb hw hW)
  have HA' := Lib.hid (fun W hW => built_any t' m' _ _ _ _ _ _ _ _ _ _ _ _ W hv' hb' hw' hW)
  have HM := Lib.hid hm
  have HM' := Lib.hid hm'
  clear hv hb hw hm hv' hb' hw' hm'
  generalize nrm (toS t) = s at HA ⊢
  generalize nrm (toS t') = s' at HA' ⊢
  obtain ⟨n, hn⟩ : ∃ n, n = cmpT s s' := ⟨_, rfl⟩
  rw [← hn]
  have HN := Lib.hid hn
  have HCC := Lib.hid (fun (m : Mem) (x y : Value) (w : World) (h : RT m x s) (h' : RT m y s') (hm : MLe m (ucell w)) => show Calls Tryz.prog 48 #[x, y] w (fun e w' => e = .returned (.int .i64 n) ∧ Gr w w') from hn ▸ compare_c h h' hm)
  clear hn
  go_enter Tryz.func23, Tryz.ntmps23
  go_wp2_with fail
  obtain ⟨W, hW⟩ : ∃ W, W = (w.alloc (.cells #[.int .i64 kd, .string nm, .string tx, .slice ak nk ck, .slice a1 n1 c1, .slice a2 n2 c2] 25)).alloc (.cells #[.int .i64 kd', .string nm', .string tx', .slice ak' nk' ck', .slice a1' n1' c1', .slice a2' n2' c2'] 25) := ⟨_, rfl⟩
  have HX := Lib.hid (show W.heap[w.heap.size]? = some (.cells #[.int .i64 kd, .string nm, .string tx, .slice ak nk ck, .slice a1 n1 c1, .slice a2 n2 c2] 25 (0, 0)) by rw [hW]; exact al_old (al_new rfl))
  have HY := Lib.hid (show W.heap[w.heap.size + 1]? = some (.cells #[.int .i64 kd', .string nm', .string tx', .slice ak' nk' ck', .slice a1' n1' c1', .slice a2' n2' c2'] 25 (0, 0)) by rw [hW]; exact al_new (by simp))
  have HB := Lib.hid (show Below w.heap.size w W by rw [hW]; exact bl_alloc (bl_alloc (Below.refl _ _) _) _)
  rw [← hW]
  clear hW
  have HM1 := Lib.hid (HM.out.trans (mle_below HB.out))
  have HM1' := Lib.hid (HM'.out.trans (mle_below HB.out))
  refine start_ (n := 6) (S := fun w' => w'.cell? ⟨w.heap.size, 0, none⟩ = some (.int .i64 kd) ∧ w'.cell? ⟨w.heap.size, 1, none⟩ = some (.string nm) ∧ w'.cell? ⟨w.heap.size, 2, none⟩ = some (.string tx) ∧ w'.cell? ⟨w.heap.size, 3, none⟩ = some (.slice ak nk ck) ∧ w'.cell? ⟨w.heap.size, 4, none⟩ = some (.slice a1 n1 c1) ∧ w'.cell? ⟨w.heap.size, 5, none⟩ = some (.slice a2 n2 c2) ∧ w'.cell? ⟨w.heap.size + 1, 0, none⟩ = some (.int .i64 kd') ∧ w'.cell? ⟨w.heap.size + 1, 1, none⟩ = some (.string nm') ∧ w'.cell? ⟨w.heap.size + 1, 2, none⟩ = some (.string tx') ∧ w'.cell? ⟨w.heap.size + 1, 3, none⟩ = some (.slice ak' nk' ck') ∧ w'.cell? ⟨w.heap.size + 1, 4, none⟩ = some (.slice a1' n1' c1') ∧ w'.cell? ⟨w.heap.size + 1, 5, none⟩ = some (.slice a2' n2' c2')) (ds := []) #[false, false, false, false, false, false] (by kernel_rfl) rfl rfl ⟨cell_blk HX.out 0 rfl, cell_blk HX.out 1 rfl, cell_blk HX.out 2 rfl, cell_blk HX.out 3 rfl, cell_blk HX.out 4 rfl, cell_blk HX.out 5 rfl, cell_blk HY.out 0 rfl, cell_blk HY.out 1 rfl, cell_blk HY.out 2 rfl, cell_blk HY.out 3 rfl, cell_blk HY.out 4 rfl, cell_blk HY.out 5 rfl⟩ (fun hHeld => ?_)
  refine take_ (i := 0) (N := some 5) (v := ?_) (a' := ?_) #[true, false, false, false, false, false] rfl rfl (by kernel_rfl) (fun _ _ _ h => h) (Or.inl ⟨by rfl, ?_⟩) hHeld ?_ ?_
  rotate_left
  · rintro w' ⟨s0, s1, s2, s3, s4, s5, s6, s7, s8, s9, s10, s11⟩
    go_simp
    with_reducible rfl
  rotate_left
  · simp only [Act.put, List.setIfInBounds_toArray, List.set_cons_zero, List.set_cons_succ, i64_w, i32_w]
    rfl
  refine take_ (i := 2) (N := some 7) (v := ?_) (a' := ?_) #[true, false, true, false, false, false] rfl rfl (by kernel_rfl) (fun _ _ _ h => h) (Or.inl ⟨by rfl, ?_⟩) hHeld ?_ ?_
  rotate_left
  · rintro w' ⟨s0, s1, s2, s3, s4, s5, s6, s7, s8, s9, s10, s11⟩
    go_simp
    with_reducible rfl
  rotate_left
  · simp only [Act.put, List.setIfInBounds_toArray, List.set_cons_zero, List.set_cons_succ, i64_w, i32_w]
    rfl
  refine one_ (i := 1) (N := some 6) #[true, true, true, false, false, false] rfl rfl (by kernel_rfl) (by decide) (fun K hK => ?_)
  refine goes_ Tryz.func46 (by kernel_rfl) rfl #[.agg #[.int .i64 kd, .string nm, .string tx, .slice ak nk ck, .slice a1 n1 c1, .slice a2 n2 c2]] (by rfl) rfl rfl (by simp only [List.map_toArray, List.map_cons, List.map_nil]; rfl) ?_
  with_reducible refine (HA.out _ (mle_drew HM1.out)).mono ?_
  rintro e w2 ⟨v, rfl, hrt, hbl⟩
  refine ⟨_, rfl, ?_⟩
  obtain ⟨T, y, rfl⟩ := hrt.shape
  have HRT := Lib.hid hrt
  have HBL := Lib.hid hbl
  have HX2 := Lib.hid (bl_heap hbl HX.out)
  have HY2 := Lib.hid (bl_heap hbl HY.out)
  clear hrt hbl
  refine hK.out _ _ ⟨cell_blk HX2.out 0 rfl, cell_blk HX2.out 1 rfl, cell_blk HX2.out 2 rfl, cell_blk HX2.out 3 rfl, cell_blk HX2.out 4 rfl, cell_blk HX2.out 5 rfl, cell_blk HY2.out 0 rfl, cell_blk HY2.out 1 rfl, cell_blk HY2.out 2 rfl, cell_blk HY2.out 3 rfl, cell_blk HY2.out 4 rfl, cell_blk HY2.out 5 rfl⟩ (fun hHeld => ?_)
  clear hK K
  refine norm_ (a' := ?_) ?_ ?_
  rotate_left
  · show Act.put _ (some 6) _ = _
    simp only [Act.put, List.setIfInBounds_toArray, List.set_cons_zero, List.set_cons_succ, i64_w, i32_w]
    rfl
  refine one_ (i := 3) (N := some 8) #[true, true, true, true, false, false] rfl rfl (by kernel_rfl) (by decide) (fun K hK => ?_)
  refine goes_ Tryz.func46 (by kernel_rfl) rfl #[.agg #[.int .i64 kd', .string nm', .string tx', .slice ak' nk' ck', .slice a1' n1' c1', .slice a2' n2' c2']] (by rfl) rfl rfl (by simp only [List.map_toArray, List.map_cons, List.map_nil]; rfl) ?_
  with_reducible refine (HA'.out _ ((mle_drew HM1'.out).trans (mle_below HBL.out))).mono ?_
  rintro e w3 ⟨v', rfl, hrt, hbl⟩
  refine ⟨_, rfl, ?_⟩
  obtain ⟨T', y', rfl⟩ := hrt.shape
  have HRT' := Lib.hid hrt
  have HBL' := Lib.hid hbl
  have HX2 := Lib.hid (bl_heap hbl HX2.out)
  have HY2 := Lib.hid (bl_heap hbl HY2.out)
  clear hrt hbl
  refine hK.out _ _ ⟨cell_blk HX2.out 0 rfl, cell_blk HX2.out 1 rfl, cell_blk HX2.out 2 rfl, cell_blk HX2.out 3 rfl, cell_blk HX2.out 4 rfl, cell_blk HX2.out 5 rfl, cell_blk HY2.out 0 rfl, cell_blk HY2.out 1 rfl, cell_blk HY2.out 2 rfl, cell_blk HY2.out 3 rfl, cell_blk HY2.out 4 rfl, cell_blk HY2.out 5 rfl⟩ (fun hHeld => ?_)
  clear hK K
  refine norm_ (a' := ?_) ?_ ?_
  rotate_left
  · show Act.put _ (some 8) _ = _
    simp only [Act.put, List.setIfInBounds_toArray, List.set_cons_zero, List.set_cons_succ, i64_w, i32_w]
    rfl
  refine one_ (i := 4) (N := some 9) #[true, true, true, true, true, false] rfl rfl (by kernel_rfl) (by decide) (fun K hK => ?_)
  refine goes_ Tryz.func48 (by kernel_rfl) rfl #[.iface T y, .iface T' y'] (by rfl) rfl rfl (by simp only [List.map_toArray, List.map_cons, List.map_nil]; rfl) ?_
  with_reducible refine (HCC.out _ _ _ _ (HRT.out.mono ((fr_leU (m0_le _)).trans (mleU HBL'.out))) (HRT'.out.mono (fr_leU (m0_le _))) (MLe.refl _)).mono ?_
  rintro e w4 ⟨rfl, hg4⟩
  refine ⟨_, rfl, ?_⟩
  have HG4 := Lib.hid hg4
  have HX2 := Lib.hid (bl_heap hg4.below HX2.out)
  have HY2 := Lib.hid (bl_heap hg4.below HY2.out)
  clear hg4
  refine hK.out _ _ ⟨cell_blk HX2.out 0 rfl, cell_blk HX2.out 1 rfl, cell_blk HX2.out 2 rfl, cell_blk HX2.out 3 rfl, cell_blk HX2.out 4 rfl, cell_blk HX2.out 5 rfl, cell_blk HY2.out 0 rfl, cell_blk HY2.out 1 rfl, cell_blk HY2.out 2 rfl, cell_blk HY2.out 3 rfl, cell_blk HY2.out 4 rfl, cell_blk HY2.out 5 rfl⟩ (fun hHeld => ?_)
  clear hK K
  refine norm_ (a' := ?_) ?_ ?_
  rotate_left
  · show Act.put _ (some 9) _ = _
    simp only [Act.put, List.setIfInBounds_toArray, List.set_cons_zero, List.set_cons_succ, i64_w, i32_w]
    rfl
  refine pure_ (i := 5) (N := some 4) (v := ?_) (a' := ?_) #[true, true, true, true, true, true] rfl rfl (by kernel_rfl) (fun _ _ _ h => h) (Or.inl ⟨by rfl, ?_⟩) ?_ ?_
  rotate_left
  · intro w'
    go_simp
    with_reducible rfl
  rotate_left
  · simp only [Act.put, List.setIfInBounds_toArray, List.set_cons_zero, List.set_cons_succ, i64_w, i32_w]
    rfl
  refine done_ (by kernel_rfl) ?_
  go_wp2
  go_ret
  exact ⟨rfl, bl_trans (bl_trans (bl_trans HB.out.drew HBL.out) HBL'.out) HG4.out.below⟩
end Go.Proofs.YtaglgokeejjagaaGreat
