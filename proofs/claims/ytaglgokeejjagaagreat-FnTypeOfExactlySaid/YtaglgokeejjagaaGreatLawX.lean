/- The walk of the law FnTypeOfExactly. -/
import Derived.Test.YtaglgokeejjagaaGreatLawT
import Derived.Test.YtaglgokeejjagaaGreatTLaw
import Derived.Test.YtaglgokeejjagaaGreatICmp
import Derived.Test.YtaglgokeejjagaaGreatObjQ
namespace Go.Proofs.YtaglgokeejjagaaGreat
set_option linter.unusedVariables false
set_option linter.unusedSimpArgs false
open Go.RowKit Go.Sort Go.Proofs.YtaglgokeejjagaaGreatW.PrintLast

theorem bt_tyOf : ∀ (t : Vl), PV t → BT (tyOf t)
  | .mk kd tx ks kids, h => by
    have hk := h.out.1
    have hkid : ∀ i (hi : i < kids.length), BT (tyOf kids[i]) := fun i hi => bt_tyOf kids[i] (h.kid (t := .mk kd tx ks kids) hi)
    have hmap : ∀ k ∈ kids.map tyOf, BT k := fun k hk => by
      obtain ⟨k', hk', rfl⟩ := List.mem_map.1 hk
      obtain ⟨i, hi, rfl⟩ := List.getElem_of_mem hk'
      exact hkid i hi
    rw [tyOf]
    by_cases h0 : kd = 0
    · rw [if_pos h0]; exact .null
    rw [if_neg h0]
    by_cases h1 : kd = 1 ∨ kd = 2
    · rw [if_pos h1]; exact .bool
    rw [if_neg h1]
    by_cases h3 : kd = 3
    · rw [if_pos h3]; exact .num
    rw [if_neg h3]
    by_cases h4 : kd = 4
    · rw [if_pos h4]; exact .str
    rw [if_neg h4]
    by_cases h5 : kd = 5
    · rw [if_pos h5]; exact .arr hmap (by simp) (by simp)
    · rw [if_neg h5]
      have h6 : kd = 6 := by omega
      have e : (ks.map fun k => (⟨4, k⟩ : Ky)) = (ks.map AK.text).map kyOf := by rw [List.map_map]; rfl
      rw [e]
      refine .obj (by simp; exact h.out.2.2.2.2.1 h6) ?_ hmap (.inl rfl) (by simp)
      rw [List.Nodup, List.pairwise_map]
      exact List.Pairwise.imp (R := (· ≠ ·)) (fun {a b} hn (e : AK.text a = AK.text b) => hn (AK.text.inj e)) (h.nodup (v := .mk kd tx ks kids) h6)
termination_by t => SizeOf.sizeOf t
decreasing_by exact Vl.lt_kid (List.getElem_mem _)

theorem icmp_same {s : ST} {m m' : Mem} {ak a1 a2 ak' a1' a2' : Option Addr} {nk ck n1 c1 n2 c2 nk' ck' n1' c1' n2' c2' : Nat} {w : World} (hb : BT s) (hw : WS s ≤ 5000) (hv : MIT m (itCells s.kind ⟨#[]⟩ ⟨#[]⟩ ak nk ck a1 n1 c1 a2 n2 c2) (toI s)) (hm : MLe m w.cell?)
    (hv' : MIT m' (itCells s.kind ⟨#[]⟩ ⟨#[]⟩ ak' nk' ck' a1' n1' c1' a2' n2' c2') (toI s)) (hm' : MLe m' w.cell?) :
    Calls Tryz.prog 23 #[.agg #[.int .i64 s.kind, .string ⟨#[]⟩, .string ⟨#[]⟩, .slice ak nk ck, .slice a1 n1 c1, .slice a2 n2 c2], .agg #[.int .i64 s.kind, .string ⟨#[]⟩, .string ⟨#[]⟩, .slice ak' nk' ck', .slice a1' n1' c1', .slice a2' n2' c2']] w (fun e w' => e = .returned (.int .i64 0) ∧ Below w.heap.size w w') :=
  (icmp_any hv (by rw [toS_toI]; exact hb) (by rw [WI_toI]; omega) hm hv' (by rw [toS_toI]; exact hb) (by rw [WI_toI]; omega) hm').mono fun e w' h => ⟨by rw [h.1, cmpT_self], h.2⟩

set_option maxHeartbeats 2000000 in
set_option maxRecDepth 100000 in
theorem law_exactly {t : Vl} {m : Mem} {kd : Int} {tx : ByteArray} {ak : Option Addr} {nk ck : Nat} {a1 : Option Addr} {n1 c1 : Nat} {w : World} (hb : BdV t) (hv : MV m (vlCells kd tx ak nk ck a1 n1 c1) t) (hm : MLe m w.cell?) :
    Calls Tryz.prog 7 #[.agg #[.int .i64 kd, .string tx, .slice ak nk ck, .slice a1 n1 c1]] w (LawP w) := by
  have HV := Lib.hid hv
  have HM := Lib.hid hm
  have HB := Lib.hid hb
  have HF := Lib.hid (fun (W : World) (h : MLe m W.cell?) => show Calls Tryz.prog 11 #[.agg #[.int .i64 kd, .string tx, .slice ak nk ck, .slice a1 n1 c1]] W (SomeB W) from by
    obtain ⟨rfl, rfl, rfl, rfl, lk, l1, rk, r1⟩ := hv.open
    exact zzFits4_any lk rk h hb.out.2.2.1 hb.out.1 l1.1 l1.2)
  clear hv hm hb
  by_cases hp : PV (valOf t)
  · have HPV := Lib.hid (fun (W : World) (m' : Mem) (kd' tx' ak' nk' ck' a1' n1' c1') (h1 : MV m' (vlCells kd' tx' ak' nk' ck' a1' n1' c1') (valOf t)) (h2 : MLe m' W.cell?) => show Calls Tryz.prog 13 #[.agg #[.int .i64 kd', .string tx', .slice ak' nk' ck', .slice a1' n1' c1']] W (PvB true W) from
      (properValue_any (SizeOf.sizeOf (valOf t) + 1) (valOf t) m' _ _ _ _ _ _ _ _ W (Nat.lt_succ_self _) (bd_val HB.out) h1 h2).mono fun e w' h => ⟨by rw [h.1, properV_true hp], h.2⟩)
    obtain ⟨ev, hw5, hpt⟩ := val_proper hp
    have HW5 := Lib.hid hw5
    have HPT := Lib.hid hpt
    have HWS := Lib.hid (Nat.le_trans (WS_tyOf t) hw5)
    have HBT := Lib.hid (bt_tyOf t hpt)
    have HTP := Lib.hid (fun (W : World) (h : MLe m W.cell?) => show Calls Tryz.prog 30 #[.agg #[.int .i64 kd, .string tx, .slice ak nk ck, .slice a1 n1 c1]] W (PlP (tyOf t) W) from typeOf_any t m _ _ _ _ _ _ _ _ W HPT.out HW5.out HV.out h)
    clear ev hw5 hpt hp
    go_enter Tryz.func7, Tryz.ntmps7
    go_wp2_with (first | (go_at_call 11; refine (HF.out _ (mle_alloc HM.out _)).mono ?_; rintro e w1 ⟨b, rfl, hg⟩; have HX := Lib.hid (bl_heap hg.below (al_new rfl)); have HG := Lib.hid hg; obtain ⟨x0, x1, x2, x3⟩ := cells4 HX.out; cases b <;> clear hg) | (go_at_call 14; refine (value_any t m _ _ _ _ _ _ _ _ _ HB.out HV.out ((mle_alloc HM.out _).trans HG.out.mle)).mono ?_; rintro e w2 ⟨kd', tx', ak', nk', ck', a1', n1', c1', rfl, hmv, hbl⟩; have HMV := Lib.hid hmv; have HBL := Lib.hid hbl; have HX2 := Lib.hid (bl_heap hbl HX.out); clear hmv hbl) | (go_at_call 13; refine (HPV.out _ _ _ _ _ _ _ _ _ _ HMV.out (fr_le ((mle_alloc HM.out _).trans (HG.out.mle.trans (mle_below HBL.out))))).mono ?_; rintro e w3 ⟨rfl, hg3⟩; have HG3 := Lib.hid hg3; have HX3 := Lib.hid (bl_heap hg3.below HX2.out); clear hg3))
    · go_ret
      exact ⟨rfl, bl_trans (bl_alloc (Below.refl _ _) _) HG.out.below⟩
    · have HM3 := Lib.hid ((mle_alloc HM.out (.cells #[.int .i64 kd, .string tx, .slice ak nk ck, .slice a1 n1 c1] 29)).trans (HG.out.mle.trans ((mle_below HBL.out).trans HG3.out.mle)))
      have HB3 := Lib.hid (bl_trans (bl_trans (bl_trans (bl_alloc (Below.refl _ _) (.cells #[.int .i64 kd, .string tx, .slice ak nk ck, .slice a1 n1 c1] 29)) HG.out.below) HBL.out) HG3.out.below)
      clear x0 x1 x2 x3
      refine start_ (n := 10) (S := fun w' => w'.cell? ⟨w.heap.size, 0, none⟩ = some (.int .i64 kd) ∧ w'.cell? ⟨w.heap.size, 1, none⟩ = some (.string tx) ∧ w'.cell? ⟨w.heap.size, 2, none⟩ = some (.slice ak nk ck) ∧ w'.cell? ⟨w.heap.size, 3, none⟩ = some (.slice a1 n1 c1)) (ds := []) #[false, false, false, false, false, false, false, false, false, false] (by kernel_rfl) rfl rfl ⟨cell_blk HX3.out 0 rfl, cell_blk HX3.out 1 rfl, cell_blk HX3.out 2 rfl, cell_blk HX3.out 3 rfl⟩ (fun hHeld => ?_)
      refine take_ (i := 0) (N := some 11) (v := ?_) (a' := ?_) #[true, false, false, false, false, false, false, false, false, false] rfl rfl (by kernel_rfl) (fun _ _ _ h => h) (Or.inl ⟨by rfl, ?_⟩) hHeld ?_ ?_
      rotate_left
      · rintro w' ⟨s0, s1, s2, s3⟩
        go_simp
        with_reducible rfl
      rotate_left
      · simp only [Act.put, List.setIfInBounds_toArray, List.set_cons_zero, List.set_cons_succ, i64_w, i32_w]
        rfl
      refine take_ (i := 2) (N := some 13) (v := ?_) (a' := ?_) #[true, false, true, false, false, false, false, false, false, false] rfl rfl (by kernel_rfl) (fun _ _ _ h => h) (Or.inl ⟨by rfl, ?_⟩) hHeld ?_ ?_
      rotate_left
      · rintro w' ⟨s0, s1, s2, s3⟩
        go_simp
        with_reducible rfl
      rotate_left
      · simp only [Act.put, List.setIfInBounds_toArray, List.set_cons_zero, List.set_cons_succ, i64_w, i32_w]
        rfl
      refine one_ (i := 1) (N := some 12) #[true, true, true, false, false, false, false, false, false, false] rfl rfl (by kernel_rfl) (by decide) (fun K hK => ?_)
      refine goes_ Tryz.func29 (by kernel_rfl) rfl #[.agg #[.int .i64 kd, .string tx, .slice ak nk ck, .slice a1 n1 c1]] (by rfl) rfl rfl (by simp only [List.map_toArray, List.map_cons, List.map_nil]; rfl) ?_
      with_reducible refine (tof_any HPT.out HW5.out HV.out (mle_drew HM3.out)).mono ?_
      rintro e w5 ⟨ak5, nk5, ck5, a15, n15, c15, a25, n25, c25, rfl, hmv5, hb5⟩
      refine ⟨_, rfl, ?_⟩
      have hX5 := bl_heap hb5 HX3.out
      refine hK.out _ _ ⟨cell_blk hX5 0 rfl, cell_blk hX5 1 rfl, cell_blk hX5 2 rfl, cell_blk hX5 3 rfl⟩ (fun hHeld => ?_)
      clear hK K
      refine norm_ (a' := ?_) ?_ ?_
      rotate_left
      · show Act.put _ (some 12) _ = _
        simp only [Act.put, List.setIfInBounds_toArray, List.set_cons_zero, List.set_cons_succ, i64_w, i32_w]
        rfl
      refine one_ (i := 3) (N := some 14) #[true, true, true, true, false, false, false, false, false, false] rfl rfl (by kernel_rfl) (by decide) (fun K hK => ?_)
      refine goes_ Tryz.func30 (by kernel_rfl) rfl #[.agg #[.int .i64 kd, .string tx, .slice ak nk ck, .slice a1 n1 c1]] (by rfl) rfl rfl (by simp only [List.map_toArray, List.map_cons, List.map_nil]; rfl) ?_
      with_reducible refine (HTP.out _ ((mle_drew HM3.out).trans (mle_below hb5))).mono ?_
      rintro e w6 ⟨ak6, nk6, ck6, a16, n16, c16, a26, n26, c26, rfl, hmv6, hb6⟩
      refine ⟨_, rfl, ?_⟩
      have hX6 := bl_heap hb6 hX5
      refine hK.out _ _ ⟨cell_blk hX6 0 rfl, cell_blk hX6 1 rfl, cell_blk hX6 2 rfl, cell_blk hX6 3 rfl⟩ (fun hHeld => ?_)
      clear hK K
      refine norm_ (a' := ?_) ?_ ?_
      rotate_left
      · show Act.put _ (some 14) _ = _
        simp only [Act.put, List.setIfInBounds_toArray, List.set_cons_zero, List.set_cons_succ, i64_w, i32_w]
        rfl
      refine one_ (i := 4) (N := some 15) #[true, true, true, true, true, false, false, false, false, false] rfl rfl (by kernel_rfl) (by decide) (fun K hK => ?_)
      refine goes_ Tryz.func23 (by kernel_rfl) rfl #[.agg #[.int .i64 (tyOf t).kind, .string ⟨#[]⟩, .string ⟨#[]⟩, .slice ak5 nk5 ck5, .slice a15 n15 c15, .slice a25 n25 c25], .agg #[.int .i64 (tyOf t).kind, .string ⟨#[]⟩, .string ⟨#[]⟩, .slice ak6 nk6 ck6, .slice a16 n16 c16, .slice a26 n26 c26]] (by rfl) rfl rfl (by simp only [List.map_toArray, List.map_cons, List.map_nil]; rfl) ?_
      with_reducible refine (icmp_same HBT.out HWS.out hmv5 ((fr_le (mle_m0 _)).trans (mle_below hb6)) hmv6 (fr_le (mle_m0 _))).mono ?_
      rintro e w7 ⟨rfl, hb7⟩
      refine ⟨_, rfl, ?_⟩
      have hX7 := bl_heap hb7 hX6
      refine hK.out _ _ ⟨cell_blk hX7 0 rfl, cell_blk hX7 1 rfl, cell_blk hX7 2 rfl, cell_blk hX7 3 rfl⟩ (fun hHeld => ?_)
      clear hK K
      refine norm_ (a' := ?_) ?_ ?_
      rotate_left
      · show Act.put _ (some 15) _ = _
        simp only [Act.put, List.setIfInBounds_toArray, List.set_cons_zero, List.set_cons_succ, i64_w, i32_w]
        rfl
      refine pure_ (i := 5) (N := some 16) (v := ?_) (a' := ?_) #[true, true, true, true, true, true, false, false, false, false] rfl rfl (by kernel_rfl) (fun _ _ _ h => h) (Or.inl ⟨by rfl, ?_⟩) ?_ ?_
      rotate_left
      · intro w'
        go_simp
        with_reducible rfl
      rotate_left
      · simp only [Act.put, List.setIfInBounds_toArray, List.set_cons_zero, List.set_cons_succ, i64_w, i32_w]
        rfl
      refine pure_ (i := 6) (N := some 17) (v := ?_) (a' := ?_) #[true, true, true, true, true, true, true, false, false, false] rfl rfl (by kernel_rfl) (fun _ _ _ h => h) (Or.inl ⟨by rfl, ?_⟩) ?_ ?_
      rotate_left
      · intro w'
        go_simp
        with_reducible rfl
      rotate_left
      · simp only [Act.put, List.setIfInBounds_toArray, List.set_cons_zero, List.set_cons_succ, i64_w, i32_w]
        rfl
      refine one_ (i := 7) (N := some 18) #[true, true, true, true, true, true, true, true, false, false] rfl rfl (by kernel_rfl) (by decide) (fun K hK => ?_)
      refine goes_ Tryz.func17 (by kernel_rfl) rfl #[] (by rfl) rfl rfl (by simp only [List.map_toArray, List.map_cons, List.map_nil]) ?_
      with_reducible refine (works_any w7).mono ?_
      rintro e w8 ⟨rfl, hg8⟩
      refine ⟨_, rfl, ?_⟩
      have hX8 := bl_heap hg8.below hX7
      refine hK.out _ _ ⟨cell_blk hX8 0 rfl, cell_blk hX8 1 rfl, cell_blk hX8 2 rfl, cell_blk hX8 3 rfl⟩ (fun hHeld => ?_)
      clear hK K
      refine norm_ (a' := ?_) ?_ ?_
      rotate_left
      · show Act.put _ (some 18) _ = _
        simp only [Act.put, List.setIfInBounds_toArray, List.set_cons_zero, List.set_cons_succ, i64_w, i32_w]
        rfl
      refine pure_ (i := 8) (N := some 19) (v := ?_) (a' := ?_) #[true, true, true, true, true, true, true, true, true, false] rfl rfl (by kernel_rfl) (fun _ _ _ h => h) (Or.inl ⟨by rfl, ?_⟩) ?_ ?_
      rotate_left
      · intro w'
        go_simp
        with_reducible rfl
      rotate_left
      · simp only [Act.put, List.setIfInBounds_toArray, List.set_cons_zero, List.set_cons_succ, i64_w, i32_w]
        rfl
      refine pure_ (i := 9) (N := some 2) (v := ?_) (a' := ?_) #[true, true, true, true, true, true, true, true, true, true] rfl rfl (by kernel_rfl) (fun _ _ _ h => h) (Or.inl ⟨by rfl, ?_⟩) ?_ ?_
      rotate_left
      · intro w'
        go_simp
        with_reducible rfl
      rotate_left
      · simp only [Act.put, List.setIfInBounds_toArray, List.set_cons_zero, List.set_cons_succ, i64_w, i32_w]
        rfl
      refine done_ (by kernel_rfl) ?_
      go_wp2
      go_ret
      exact ⟨rfl, bl_trans (bl_trans (bl_trans (bl_trans HB3.out.drew hb5) hb6) hb7) hg8.below⟩
  · have HPV := Lib.hid (fun (W : World) (m' : Mem) (kd' tx' ak' nk' ck' a1' n1' c1') (h1 : MV m' (vlCells kd' tx' ak' nk' ck' a1' n1' c1') (valOf t)) (h2 : MLe m' W.cell?) => show Calls Tryz.prog 13 #[.agg #[.int .i64 kd', .string tx', .slice ak' nk' ck', .slice a1' n1' c1']] W (PvB false W) from
      (properValue_any (SizeOf.sizeOf (valOf t) + 1) (valOf t) m' _ _ _ _ _ _ _ _ W (Nat.lt_succ_self _) (bd_val HB.out) h1 h2).mono fun e w' h => ⟨by rw [h.1, properV_false hp], h.2⟩)
    clear hp
    go_enter Tryz.func7, Tryz.ntmps7
    go_wp2_with (first | (go_at_call 11; refine (HF.out _ (mle_alloc HM.out _)).mono ?_; rintro e w1 ⟨b, rfl, hg⟩; have HX := Lib.hid (bl_heap hg.below (al_new rfl)); have HG := Lib.hid hg; obtain ⟨x0, x1, x2, x3⟩ := cells4 HX.out; cases b <;> clear hg) | (go_at_call 14; refine (value_any t m _ _ _ _ _ _ _ _ _ HB.out HV.out ((mle_alloc HM.out _).trans HG.out.mle)).mono ?_; rintro e w2 ⟨kd', tx', ak', nk', ck', a1', n1', c1', rfl, hmv, hbl⟩; have HMV := Lib.hid hmv; have HBL := Lib.hid hbl; clear hmv hbl) | (go_at_call 13; refine (HPV.out _ _ _ _ _ _ _ _ _ _ HMV.out (fr_le ((mle_alloc HM.out _).trans (HG.out.mle.trans (mle_below HBL.out))))).mono ?_; rintro e w3 ⟨rfl, hg3⟩; have HG3 := Lib.hid hg3; clear hg3) | (go_at_call 17; refine (works_any _).mono ?_; rintro e w4 ⟨rfl, hg4⟩; have HG4 := Lib.hid hg4; clear hg4))
    · go_ret
      exact ⟨rfl, bl_trans (bl_alloc (Below.refl _ _) _) HG.out.below⟩
    · go_ret
      exact ⟨rfl, bl_trans (bl_trans (bl_trans (bl_trans (bl_alloc (Below.refl _ _) _) HG.out.below) HBL.out) HG3.out.below) HG4.out.below⟩
end Go.Proofs.YtaglgokeejjagaaGreat
