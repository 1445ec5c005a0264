/- The walk of the law FnTypeOf. -/
import Derived.Test.YtaglgokeejjagaaGreatFits
import Derived.Test.YtaglgokeejjagaaGreatWorks
import Derived.Test.YtaglgokeejjagaaGreatInTy
import Derived.Test.YtaglgokeejjagaaGreatInT
import Derived.Test.YtaglgokeejjagaaGreatWLast
namespace Go.Proofs.YtaglgokeejjagaaGreat
set_option linter.unusedVariables false
set_option linter.unusedSimpArgs false
open Go.RowKit Go.Sort Go.Proofs.YtaglgokeejjagaaGreatW.PrintLast

def LawP (w : World) (e : Ending) (w' : World) : Prop := e = .returned (.bool true) ∧ Below w.heap.size w w'
def PvB (b : Bool) (w : World) (e : Ending) (w' : World) : Prop := e = .returned (.bool b) ∧ Gr w w'
theorem in_yes (t : ST) (v : Vl) (m : Mem) {kv : Int} {tx : ByteArray} {akv : Option Addr} {nkv ckv : Nat} {a1v : Option Addr} {n1v c1v : Nat} {kd : Int} {ak : Option Addr} {nk ck : Nat} {a1 : Option Addr} {n1 c1 : Nat} {a2 : Option Addr} {n2 c2 : Nat} {w : World}
    (h : InP t v) (h1 : Wt t) (h2 : Wv v) (h3 : MV m (vlCells kv tx akv nkv ckv a1v n1v c1v) v) (h4 : MST m (stCells kd ak nk ck a1 n1 c1 a2 n2 c2) t) (h5 : MLe m w.cell?) :
    Calls Tryz.prog 15 #[.agg #[.int .i64 kv, .string tx, .slice akv nkv ckv, .slice a1v n1v c1v], .agg #[.int .i64 kd, .slice ak nk ck, .slice a1 n1 c1, .slice a2 n2 c2]] w (PvB true w) :=
  (in_any t v m _ _ _ _ _ _ _ _ _ _ _ _ _ _ _ _ _ _ w h1 h2 h3 h4 h5).mono fun e w' h9 => ⟨by rw [h9.1, inT_true h], h9.2⟩

set_option maxHeartbeats 2000000 in
set_option maxRecDepth 100000 in
theorem law_typeOf {t : Vl} {m : Mem} {kd : Int} {tx : ByteArray} {ak : Option Addr} {nk ck : Nat} {a1 : Option Addr} {n1 c1 : Nat} {w : World} (hb : BdV t) (hv : MV m (vlCells kd tx ak nk ck a1 n1 c1) t) (hm : MLe m w.cell?) :
    Calls Tryz.prog 6 #[.agg #[.int .i64 kd, .string tx, .slice ak nk ck, .slice a1 n1 c1]] w (LawP w) := by
  have HV := Lib.hid hv
  have HM := Lib.hid hm
  have HB := Lib.hid hb
  have HF := Lib.hid (fun (W : World) (h : MLe m W.cell?) => show Calls Tryz.prog 11 #[.agg #[.int .i64 kd, .string tx, .slice ak nk ck, .slice a1 n1 c1]] W (SomeB W) from by
    obtain ⟨rfl, rfl, rfl, rfl, lk, l1, rk, r1⟩ := hv.open
    exact zzFits4_any lk rk h hb.out.2.2.1 hb.out.1 l1.1 l1.2)
  clear hv hm hb
  by_cases hp : PV (valOf t)
  · have HPV := Lib.hid (fun (W : World) (m' : Mem) (kd' tx' ak' nk' ck' a1' n1' c1') (h1 : MV m' (vlCells kd' tx' ak' nk' ck' a1' n1' c1') (valOf t)) (h2 : MLe m' W.cell?) => show Calls Tryz.prog 13 #[.agg #[.int .i64 kd', .string tx', .slice ak' nk' ck', .slice a1' n1' c1']] W (PvB true W) from
      (properValue_any (SizeOf.sizeOf (valOf t) + 1) (valOf t) m' _ _ _ _ _ _ _ _ W (Nat.lt_succ_self _) (bd_val HB.out) h1 h2).mono fun e w' h => ⟨by rw [h.1, properV_true hp], h.2⟩)
    obtain ⟨ev, hw5, hpt⟩ := val_proper hp
    have EV := Lib.hid ev
    have HW5 := Lib.hid hw5
    have HPT := Lib.hid hpt
    have HWS := Lib.hid (Nat.le_trans (WS_tyOf t) hw5)
    clear ev hw5 hpt hp
    go_enter Tryz.func6, Tryz.ntmps6
    go_wp2_with (first | (go_at_call 11; refine (HF.out _ (mle_alloc HM.out _)).mono ?_; rintro e w1 ⟨b, rfl, hg⟩; have HX := Lib.hid (bl_heap hg.below (al_new rfl)); have HG := Lib.hid hg; obtain ⟨x0, x1, x2, x3⟩ := cells4 HX.out; cases b <;> clear hg) | (go_at_call 14; refine (value_any t m _ _ _ _ _ _ _ _ _ HB.out HV.out ((mle_alloc HM.out _).trans HG.out.mle)).mono ?_; rintro e w2 ⟨kd', tx', ak', nk', ck', a1', n1', c1', rfl, hmv, hbl⟩; have HMV := Lib.hid hmv; have HBL := Lib.hid hbl; have HX2 := Lib.hid (bl_heap hbl HX.out); clear hmv hbl) | (go_at_call 13; refine (HPV.out _ _ _ _ _ _ _ _ _ _ HMV.out (fr_le ((mle_alloc HM.out _).trans (HG.out.mle.trans (mle_below HBL.out))))).mono ?_; rintro e w3 ⟨rfl, hg3⟩; have HG3 := Lib.hid hg3; have HX3 := Lib.hid (bl_heap hg3.below HX2.out); clear hg3))
    · go_ret
      exact ⟨rfl, bl_trans (bl_alloc (Below.refl _ _) _) HG.out.below⟩
    · have HM3 := Lib.hid ((mle_alloc HM.out (.cells #[.int .i64 kd, .string tx, .slice ak nk ck, .slice a1 n1 c1] 29)).trans (HG.out.mle.trans ((mle_below HBL.out).trans HG3.out.mle)))
      have HB3 := Lib.hid (bl_trans (bl_trans (bl_trans (bl_alloc (Below.refl _ _) (.cells #[.int .i64 kd, .string tx, .slice ak nk ck, .slice a1 n1 c1] 29)) HG.out.below) HBL.out) HG3.out.below)
      clear x0 x1 x2 x3
      refine start_ (n := 10) (S := fun w' => w'.cell? ⟨w.heap.size, 0, none⟩ = some (.int .i64 kd) ∧ w'.cell? ⟨w.heap.size, 1, none⟩ = some (.string tx) ∧ w'.cell? ⟨w.heap.size, 2, none⟩ = some (.slice ak nk ck) ∧ w'.cell? ⟨w.heap.size, 3, none⟩ = some (.slice a1 n1 c1)) (ds := []) #[false, false, false, false, false, false, false, false, false, false] (by kernel_rfl) rfl rfl ⟨cell_blk HX3.out 0 rfl, cell_blk HX3.out 1 rfl, cell_blk HX3.out 2 rfl, cell_blk HX3.out 3 rfl⟩ (fun hHeld => ?_)
      refine take_ (i := 0) (N := some 11) (v := ?_) (a' := ?_) #[true, false, false, false, false, false, false, false, false, false] rfl rfl (by kernel_rfl) (fun _ _ _ h => h) (Or.inl ⟨by rfl, ?_⟩) hHeld ?_ ?_
      rotate_left
      · rintro w' ⟨s0, s1, s2, s3⟩
        go_simp
        with_reducible rfl
      rotate_left
      · simp only [Act.put, List.setIfInBounds_toArray, List.set_cons_zero, List.set_cons_succ, i64_w, i32_w]
        rfl
      refine take_ (i := 2) (N := some 13) (v := ?_) (a' := ?_) #[true, false, true, false, false, false, false, false, false, false] rfl rfl (by kernel_rfl) (fun _ _ _ h => h) (Or.inl ⟨by rfl, ?_⟩) hHeld ?_ ?_
      rotate_left
      · rintro w' ⟨s0, s1, s2, s3⟩
        go_simp
        with_reducible rfl
      rotate_left
      · simp only [Act.put, List.setIfInBounds_toArray, List.set_cons_zero, List.set_cons_succ, i64_w, i32_w]
        rfl
      refine one_ (i := 1) (N := some 12) #[true, true, true, false, false, false, false, false, false, false] rfl rfl (by kernel_rfl) (by decide) (fun K hK => ?_)
      refine goes_ Tryz.func14 (by kernel_rfl) rfl #[.agg #[.int .i64 kd, .string tx, .slice ak nk ck, .slice a1 n1 c1]] (by rfl) rfl rfl (by simp only [List.map_toArray, List.map_cons, List.map_nil]; rfl) ?_
      with_reducible refine (value_any t m _ _ _ _ _ _ _ _ _ HB.out HV.out (mle_drew HM3.out)).mono ?_
      rintro e w4 ⟨kd4, tx4, ak4, nk4, ck4, a14, n14, c14, rfl, hmv4, hb4⟩
      refine ⟨_, rfl, ?_⟩
      have hX4 := bl_heap hb4 HX3.out
      refine hK.out _ _ ⟨cell_blk hX4 0 rfl, cell_blk hX4 1 rfl, cell_blk hX4 2 rfl, cell_blk hX4 3 rfl⟩ (fun hHeld => ?_)
      clear hK K
      refine norm_ (a' := ?_) ?_ ?_
      rotate_left
      · show Act.put _ (some 12) _ = _
        simp only [Act.put, List.setIfInBounds_toArray, List.set_cons_zero, List.set_cons_succ, i64_w, i32_w]
        rfl
      refine one_ (i := 3) (N := some 14) #[true, true, true, true, false, false, false, false, false, false] rfl rfl (by kernel_rfl) (by decide) (fun K hK => ?_)
      refine goes_ Tryz.func29 (by kernel_rfl) rfl #[.agg #[.int .i64 kd, .string tx, .slice ak nk ck, .slice a1 n1 c1]] (by rfl) rfl rfl (by simp only [List.map_toArray, List.map_cons, List.map_nil]; rfl) ?_
      with_reducible refine (tof_any HPT.out HW5.out HV.out ((mle_drew HM3.out).trans (mle_below hb4))).mono ?_
      rintro e w5 ⟨ak5, nk5, ck5, a15, n15, c15, a25, n25, c25, rfl, hmv5, hb5⟩
      refine ⟨_, rfl, ?_⟩
      have hX5 := bl_heap hb5 hX4
      refine hK.out _ _ ⟨cell_blk hX5 0 rfl, cell_blk hX5 1 rfl, cell_blk hX5 2 rfl, cell_blk hX5 3 rfl⟩ (fun hHeld => ?_)
      clear hK K
      refine norm_ (a' := ?_) ?_ ?_
      rotate_left
      · show Act.put _ (some 14) _ = _
        simp only [Act.put, List.setIfInBounds_toArray, List.set_cons_zero, List.set_cons_succ, i64_w, i32_w]
        rfl
      refine one_ (i := 4) (N := some 15) #[true, true, true, true, true, false, false, false, false, false] rfl rfl (by kernel_rfl) (by decide) (fun K hK => ?_)
      refine goes_ Tryz.func20 (by kernel_rfl) rfl #[.agg #[.int .i64 (tyOf t).kind, .string ⟨#[]⟩, .string ⟨#[]⟩, .slice ak5 nk5 ck5, .slice a15 n15 c15, .slice a25 n25 c25]] (by rfl) rfl rfl (by simp only [List.map_toArray, List.map_cons, List.map_nil]; rfl) ?_
      with_reducible refine (given_any (toI (tyOf t)) _ _ _ _ _ _ _ _ _ _ _ _ _ w5 (bdI_toI _ (Nat.le_trans HWS.out (by decide))) hmv5 (fr_le (mle_m0 _))).mono ?_
      rintro e w6 ⟨kd6, ak6, nk6, ck6, a16, n16, c16, a26, n26, c26, rfl, hmv6, hb6⟩
      refine ⟨_, rfl, ?_⟩
      have hX6 := bl_heap hb6 hX5
      refine hK.out _ _ ⟨cell_blk hX6 0 rfl, cell_blk hX6 1 rfl, cell_blk hX6 2 rfl, cell_blk hX6 3 rfl⟩ (fun hHeld => ?_)
      clear hK K
      refine norm_ (a' := ?_) ?_ ?_
      rotate_left
      · show Act.put _ (some 15) _ = _
        simp only [Act.put, List.setIfInBounds_toArray, List.set_cons_zero, List.set_cons_succ, i64_w, i32_w]
        rfl
      refine one_ (i := 5) (N := some 16) #[true, true, true, true, true, true, false, false, false, false] rfl rfl (by kernel_rfl) (by decide) (fun K hK => ?_)
      refine goes_ Tryz.func15 (by kernel_rfl) rfl #[.agg #[.int .i64 kd4, .string tx4, .slice ak4 nk4 ck4, .slice a14 n14 c14], .agg #[.int .i64 kd6, .slice ak6 nk6 ck6, .slice a16 n16 c16, .slice a26 n26 c26]] (by rfl) rfl rfl (by simp only [List.map_toArray, List.map_cons, List.map_nil]; rfl) ?_
      with_reducible refine (in_yes (tyOf t) t w6.cell? (in_tyOf t HPT.out) (wt_tyOf t HPT.out) (wv_of t HPT.out) (by have h := hmv4; rw [EV.out] at h; exact h.mono ((fr_le ((mle_drew HM3.out).trans (mle_below hb4))).trans ((mle_below hb5).trans (mle_below hb6)))) (by have h := hmv6; rw [given_toI (Nat.le_trans HWS.out (by decide))] at h; exact h.mono (fr_le (((fr_le (mle_m0 _))).trans (mle_below hb6)))) (MLe.refl _)).mono ?_
      rintro e w7 ⟨rfl, hg7⟩
      refine ⟨_, rfl, ?_⟩
      have hX7 := bl_heap hg7.below hX6
      refine hK.out _ _ ⟨cell_blk hX7 0 rfl, cell_blk hX7 1 rfl, cell_blk hX7 2 rfl, cell_blk hX7 3 rfl⟩ (fun hHeld => ?_)
      clear hK K
      refine norm_ (a' := ?_) ?_ ?_
      rotate_left
      · show Act.put _ (some 16) _ = _
        simp only [Act.put, List.setIfInBounds_toArray, List.set_cons_zero, List.set_cons_succ, i64_w, i32_w]
        rfl
      refine pure_ (i := 6) (N := some 17) (v := ?_) (a' := ?_) #[true, true, true, true, true, true, true, false, false, false] rfl rfl (by kernel_rfl) (fun _ _ _ h => h) (Or.inl ⟨by rfl, ?_⟩) ?_ ?_
      rotate_left
      · intro w'
        go_simp
        with_reducible rfl
      rotate_left
      · simp only [Act.put, List.setIfInBounds_toArray, List.set_cons_zero, List.set_cons_succ, i64_w, i32_w]
        rfl
      refine one_ (i := 7) (N := some 18) #[true, true, true, true, true, true, true, true, false, false] rfl rfl (by kernel_rfl) (by decide) (fun K hK => ?_)
      refine goes_ Tryz.func17 (by kernel_rfl) rfl #[] (by rfl) rfl rfl (by simp only [List.map_toArray, List.map_cons, List.map_nil]) ?_
      with_reducible refine (works_any w7).mono ?_
      rintro e w8 ⟨rfl, hg8⟩
      refine ⟨_, rfl, ?_⟩
      have hX8 := bl_heap hg8.below hX7
      refine hK.out _ _ ⟨cell_blk hX8 0 rfl, cell_blk hX8 1 rfl, cell_blk hX8 2 rfl, cell_blk hX8 3 rfl⟩ (fun hHeld => ?_)
      clear hK K
      refine norm_ (a' := ?_) ?_ ?_
      rotate_left
      · show Act.put _ (some 18) _ = _
        simp only [Act.put, List.setIfInBounds_toArray, List.set_cons_zero, List.set_cons_succ, i64_w, i32_w]
        rfl
      refine pure_ (i := 8) (N := some 19) (v := ?_) (a' := ?_) #[true, true, true, true, true, true, true, true, true, false] rfl rfl (by kernel_rfl) (fun _ _ _ h => h) (Or.inl ⟨by rfl, ?_⟩) ?_ ?_
      rotate_left
      · intro w'
        go_simp
        with_reducible rfl
      rotate_left
      · simp only [Act.put, List.setIfInBounds_toArray, List.set_cons_zero, List.set_cons_succ, i64_w, i32_w]
        rfl
      refine pure_ (i := 9) (N := some 2) (v := ?_) (a' := ?_) #[true, true, true, true, true, true, true, true, true, true] rfl rfl (by kernel_rfl) (fun _ _ _ h => h) (Or.inl ⟨by rfl, ?_⟩) ?_ ?_
      rotate_left
      · intro w'
        go_simp
        with_reducible rfl
      rotate_left
      · simp only [Act.put, List.setIfInBounds_toArray, List.set_cons_zero, List.set_cons_succ, i64_w, i32_w]
        rfl
      refine done_ (by kernel_rfl) ?_
      go_wp2
      go_ret
      exact ⟨rfl, bl_trans (bl_trans (bl_trans (bl_trans (bl_trans HB3.out.drew hb4) hb5) hb6) hg7.below) hg8.below⟩
  · have HPV := Lib.hid (fun (W : World) (m' : Mem) (kd' tx' ak' nk' ck' a1' n1' c1') (h1 : MV m' (vlCells kd' tx' ak' nk' ck' a1' n1' c1') (valOf t)) (h2 : MLe m' W.cell?) => show Calls Tryz.prog 13 #[.agg #[.int .i64 kd', .string tx', .slice ak' nk' ck', .slice a1' n1' c1']] W (PvB false W) from
      (properValue_any (SizeOf.sizeOf (valOf t) + 1) (valOf t) m' _ _ _ _ _ _ _ _ W (Nat.lt_succ_self _) (bd_val HB.out) h1 h2).mono fun e w' h => ⟨by rw [h.1, properV_false hp], h.2⟩)
    clear hp
    go_enter Tryz.func6, Tryz.ntmps6
    go_wp2_with (first | (go_at_call 11; refine (HF.out _ (mle_alloc HM.out _)).mono ?_; rintro e w1 ⟨b, rfl, hg⟩; have HX := Lib.hid (bl_heap hg.below (al_new rfl)); have HG := Lib.hid hg; obtain ⟨x0, x1, x2, x3⟩ := cells4 HX.out; cases b <;> clear hg) | (go_at_call 14; refine (value_any t m _ _ _ _ _ _ _ _ _ HB.out HV.out ((mle_alloc HM.out _).trans HG.out.mle)).mono ?_; rintro e w2 ⟨kd', tx', ak', nk', ck', a1', n1', c1', rfl, hmv, hbl⟩; have HMV := Lib.hid hmv; have HBL := Lib.hid hbl; clear hmv hbl) | (go_at_call 13; refine (HPV.out _ _ _ _ _ _ _ _ _ _ HMV.out (fr_le ((mle_alloc HM.out _).trans (HG.out.mle.trans (mle_below HBL.out))))).mono ?_; rintro e w3 ⟨rfl, hg3⟩; have HG3 := Lib.hid hg3; clear hg3) | (go_at_call 17; refine (works_any _).mono ?_; rintro e w4 ⟨rfl, hg4⟩; have HG4 := Lib.hid hg4; clear hg4))
    · go_ret
      exact ⟨rfl, bl_trans (bl_alloc (Below.refl _ _) _) HG.out.below⟩
    · go_ret
      exact ⟨rfl, bl_trans (bl_trans (bl_trans (bl_trans (bl_alloc (Below.refl _ _) _) HG.out.below) HBL.out) HG3.out.below) HG4.out.below⟩
end Go.Proofs.YtaglgokeejjagaaGreat
