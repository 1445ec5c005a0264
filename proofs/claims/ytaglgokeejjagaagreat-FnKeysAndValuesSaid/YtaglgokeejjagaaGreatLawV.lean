/- The walk of the law of function 9: where nothing is asked of the entries. -/
import Derived.Test.YtaglgokeejjagaaGreatLawK
import Derived.Test.YtaglgokeejjagaaGreatPtb
import Derived.Test.YtaglgokeejjagaaGreatWorks
import Derived.Test.YtaglgokeejjagaaGreatFits
import Derived.Test.YtaglgokeejjagaaGreatFits2
import Derived.Test.YtaglgokeejjagaaGreatWLast
namespace Go.Proofs.YtaglgokeejjagaaGreat
set_option linter.unusedVariables false
set_option linter.unusedSimpArgs false
open Go.RowKit Go.Sort Go.Proofs.YtaglgokeejjagaaGreatW.PrintLast

set_option maxHeartbeats 8000000 in
set_option maxRecDepth 100000 in
theorem ls9_pv {t : IT} {v : Vl} {m : Mem} {kd : Int} {nm tx : ByteArray} {ak a1 a2 : Option Addr} {nk ck n1 c1 n2 c2 : Nat} {kv : Int} {vx : ByteArray} {akv a1v : Option Addr} {nkv ckv n1v c1v : Nat} {w : World} (hb : BdI t) (hbv : BdV v) (hv : MIT m (itCells kd nm tx ak nk ck a1 n1 c1 a2 n2 c2) t) (hw : MV m (vlCells kv vx akv nkv ckv a1v n1v c1v) v) (hm : MLe m w.cell?) (hp : ¬ PV (valOf v)) :
    Calls Tryz.prog 9 #[.agg #[.int .i64 kd, .string nm, .string tx, .slice ak nk ck, .slice a1 n1 c1, .slice a2 n2 c2], .agg #[.int .i64 kv, .string vx, .slice akv nkv ckv, .slice a1v n1v c1v]] w (LawQ w) := by
  have HF1 := Lib.hid (fun (W : World) (h : MLe m W.cell?) => show Calls Tryz.prog 10 #[.agg #[.int .i64 kd, .string nm, .string tx, .slice ak nk ck, .slice a1 n1 c1, .slice a2 n2 c2]] W (SomeB W) from zzFits1_any hb hv h)
  have HF4 := Lib.hid (fun (W : World) (h : MLe m W.cell?) => show Calls Tryz.prog 11 #[.agg #[.int .i64 kv, .string vx, .slice akv nkv ckv, .slice a1v n1v c1v]] W (SomeB W) from by
    obtain ⟨rfl, rfl, rfl, rfl, lk, l1, rk, r1⟩ := hw.open
    exact zzFits4_any lk rk h hbv.out.2.2.1 hbv.out.1 l1.1 l1.2)
  have HPR := Lib.hid (fun (W : World) (b : Nat) (h : MLe m W.cell?) (hx : W.heap[b]? = some (.cells #[.int .i64 kd, .string nm, .string tx, .slice ak nk ck, .slice a1 n1 c1, .slice a2 n2 c2] 25 (0, 0))) => show Calls Tryz.prog 12 #[.slice (some ⟨b, 0, none⟩) 1 1] W (PrpQ t W) from proper1 hb hv h hx)
  have HPV := Lib.hid (fun (W : World) (m' : Mem) (kd' tx' ak' nk' ck' a1' n1' c1') (h1 : MV m' (vlCells kd' tx' ak' nk' ck' a1' n1' c1') (valOf v)) (h2 : MLe m' W.cell?) => show Calls Tryz.prog 13 #[.agg #[.int .i64 kd', .string tx', .slice ak' nk' ck', .slice a1' n1' c1']] W (BoP false W) from
    (properValue_any (SizeOf.sizeOf (valOf v) + 1) (valOf v) m' _ _ _ _ _ _ _ _ W (Nat.lt_succ_self _) (bd_val hbv) h1 h2).mono fun e w' h => ⟨by rw [h.1, properV_false hp], h.2⟩)
  have HM := Lib.hid hm
  have HV := Lib.hid hv
  have HW := Lib.hid hw
  have HBI := Lib.hid hb
  have HBV := Lib.hid hbv
  clear hm hv hw hb hbv hp
  go_enter Tryz.func9, Tryz.ntmps9
  go_wp2_with (first
    | (go_at_call 10; refine (HF1.out _ (mle_alloc (mle_alloc HM.out _) _)).mono ?_; rintro e w1 ⟨b, rfl, hg⟩; have HX1 := Lib.hid (bl_heap hg.below (al_old (al_new rfl))); have HY1 := Lib.hid (show w1.heap[w.heap.size + 1]? = some (.cells #[.int .i64 kv, .string vx, .slice akv nkv ckv, .slice a1v n1v c1v] 29 (0, 0)) from bl_heap hg.below (al_new (by simp))); have HB1 := Lib.hid (bl_trans (bl_alloc (bl_alloc (Below.refl _ _) _) _) hg.below); obtain ⟨x0, x1, x2, x3, x4, x5⟩ := cells6 HX1.out; obtain ⟨y0, y1, y2, y3⟩ := cells4 HY1.out; clear hg; cases b)
    | (go_at_call 11; refine (HF4.out _ (HM.out.trans (mle_below HB1.out))).mono ?_; rintro e w2 ⟨b, rfl, hg⟩; have HX2 := Lib.hid (bl_heap hg.below HX1.out); have HY2 := Lib.hid (bl_heap hg.below HY1.out); have HB2 := Lib.hid (bl_trans HB1.out hg.below); clear hg x0 x1 x2 x3 x4 x5 y0 y1 y2 y3; cases b))
  · go_ret
    exact ⟨rfl, HB1.out⟩
  · go_ret
    exact ⟨rfl, HB2.out⟩
  have HM2 := Lib.hid (HM.out.trans (mle_below HB2.out))
  refine start_ (n := 18) (S := fun w' => w'.cell? ⟨w.heap.size, 0, none⟩ = some (.int .i64 kd) ∧ w'.cell? ⟨w.heap.size, 1, none⟩ = some (.string nm) ∧ w'.cell? ⟨w.heap.size, 2, none⟩ = some (.string tx) ∧ w'.cell? ⟨w.heap.size, 3, none⟩ = some (.slice ak nk ck) ∧ w'.cell? ⟨w.heap.size, 4, none⟩ = some (.slice a1 n1 c1) ∧ w'.cell? ⟨w.heap.size, 5, none⟩ = some (.slice a2 n2 c2) ∧ w'.cell? ⟨w.heap.size + 1, 0, none⟩ = some (.int .i64 kv) ∧ w'.cell? ⟨w.heap.size + 1, 1, none⟩ = some (.string vx) ∧ w'.cell? ⟨w.heap.size + 1, 2, none⟩ = some (.slice akv nkv ckv) ∧ w'.cell? ⟨w.heap.size + 1, 3, none⟩ = some (.slice a1v n1v c1v)) (ds := []) #[false, false, false, false, false, false, false, false, false, false, false, false, false, false, false, false, false, false] (by kernel_rfl) rfl rfl ⟨cell_blk HX2.out 0 rfl, cell_blk HX2.out 1 rfl, cell_blk HX2.out 2 rfl, cell_blk HX2.out 3 rfl, cell_blk HX2.out 4 rfl, cell_blk HX2.out 5 rfl, cell_blk HY2.out 0 rfl, cell_blk HY2.out 1 rfl, cell_blk HY2.out 2 rfl, cell_blk HY2.out 3 rfl⟩ (fun hHeld => ?_)
  refine take_ (i := 0) (N := some 17) (v := ?_) (a' := ?_) #[true, false, false, false, false, false, false, false, false, false, false, false, false, false, false, false, false, false] rfl rfl (by kernel_rfl) (fun _ _ _ h => h) (Or.inl ⟨by rfl, ?_⟩) hHeld ?_ ?_
  rotate_left
  · rintro w' ⟨s0, s1, s2, s3, s4, s5, s6, s7, s8, s9⟩
    go_simp
    with_reducible rfl
  rotate_left
  · simp only [Act.put, List.setIfInBounds_toArray, List.set_cons_zero, List.set_cons_succ, i64_w, i32_w]
    rfl
  refine one_ (i := 1) (N := some 18) #[true, true, false, false, false, false, false, false, false, false, false, false, false, false, false, false, false, false] rfl rfl (by kernel_rfl) (by decide) (fun K hK => ?_)
  refine value_ (w1 := ?_) (v := ?_) (by rfl) rfl ?_ ?_
  rotate_left 2
  · go_simp
    constructor
    · rfl
    · rfl
  refine hK.out _ _ ⟨cell_blk (al_old HX2.out) 0 rfl, cell_blk (al_old HX2.out) 1 rfl, cell_blk (al_old HX2.out) 2 rfl, cell_blk (al_old HX2.out) 3 rfl, cell_blk (al_old HX2.out) 4 rfl, cell_blk (al_old HX2.out) 5 rfl, cell_blk (al_old HY2.out) 0 rfl, cell_blk (al_old HY2.out) 1 rfl, cell_blk (al_old HY2.out) 2 rfl, cell_blk (al_old HY2.out) 3 rfl⟩ (fun hHeld => ?_)
  clear hK K
  refine norm_ (a' := ?_) ?_ ?_
  rotate_left
  · show Act.put _ (some 18) _ = _
    simp only [Act.put, List.setIfInBounds_toArray, List.set_cons_zero, List.set_cons_succ, i64_w, i32_w]
    rfl
  refine one_ (i := 2) (N := some 19) #[true, true, true, false, false, false, false, false, false, false, false, false, false, false, false, false, false, false] rfl rfl (by kernel_rfl) (by decide) (fun K hK => ?_)
  refine goes_ Tryz.func12 (by kernel_rfl) rfl #[.slice (some ⟨w2.heap.size, 0, none⟩) 1 1] (by rfl) rfl rfl (by simp only [List.map_toArray, List.map_cons, List.map_nil]; rfl) ?_
  with_reducible refine (HPR.out _ w2.heap.size (mle_drew (mle_alloc HM2.out _)) (al_new rfl)).mono ?_
  rintro e w3 ⟨b, rfl, hp3, hb3⟩
  refine ⟨_, rfl, ?_⟩
  have hX3 := bl_heap hb3 (al_old HX2.out)
  have hY3 := bl_heap hb3 (al_old HY2.out)
  have hB3 := bl_trans (bl_alloc HB2.out _).drew hb3
  cases b
  · skip
    refine hK.out _ _ ⟨cell_blk hX3 0 rfl, cell_blk hX3 1 rfl, cell_blk hX3 2 rfl, cell_blk hX3 3 rfl, cell_blk hX3 4 rfl, cell_blk hX3 5 rfl, cell_blk hY3 0 rfl, cell_blk hY3 1 rfl, cell_blk hY3 2 rfl, cell_blk hY3 3 rfl⟩ (fun hHeld => ?_)
    clear hK K
    refine norm_ (a' := ?_) ?_ ?_
    rotate_left
    · show Act.put _ (some 19) _ = _
      simp only [Act.put, List.setIfInBounds_toArray, List.set_cons_zero, List.set_cons_succ, i64_w, i32_w]
      rfl
    refine pure_ (i := 3) (N := some 20) (v := ?_) (a' := ?_) #[true, true, true, true, false, false, false, false, false, false, false, false, false, false, false, false, false, false] rfl rfl (by kernel_rfl) (fun _ _ _ h => h) (Or.inl ⟨by rfl, ?_⟩) ?_ ?_
    rotate_left
    · intro w'
      go_simp
      with_reducible rfl
    rotate_left
    · simp only [Act.put, List.setIfInBounds_toArray, List.set_cons_zero, List.set_cons_succ, i64_w, i32_w]
      rfl
    refine pure_ (i := 4) (N := some 21) (v := ?_) (a' := ?_) #[true, true, true, true, true, false, false, false, false, false, false, false, false, false, false, false, false, false] rfl rfl (by kernel_rfl) (fun _ _ _ h => h) (Or.inl ⟨by rfl, ?_⟩) ?_ ?_
    rotate_left
    · intro w'
      go_simp
      with_reducible rfl
    rotate_left
    · simp only [Act.put, List.setIfInBounds_toArray, List.set_cons_zero, List.set_cons_succ, i64_w, i32_w]
      rfl
    refine pure_ (i := 5) (N := some 22) (v := undef) (a' := ?_) #[true, true, true, true, true, true, false, false, false, false, false, false, false, false, false, false, false, false] rfl rfl (by kernel_rfl) (fun _ _ _ h => h) (Or.inr ⟨by rfl, rfl⟩) ?_ ?_
    rotate_left
    · simp only [Act.put, List.setIfInBounds_toArray, List.set_cons_zero, List.set_cons_succ, i64_w, i32_w]
      rfl
    refine pure_ (i := 6) (N := some 23) (v := undef) (a' := ?_) #[true, true, true, true, true, true, true, false, false, false, false, false, false, false, false, false, false, false] rfl rfl (by kernel_rfl) (fun _ _ _ h => h) (Or.inr ⟨by rfl, rfl⟩) ?_ ?_
    rotate_left
    · simp only [Act.put, List.setIfInBounds_toArray, List.set_cons_zero, List.set_cons_succ, i64_w, i32_w]
      rfl
    refine pure_ (i := 7) (N := some 24) (v := undef) (a' := ?_) #[true, true, true, true, true, true, true, true, false, false, false, false, false, false, false, false, false, false] rfl rfl (by kernel_rfl) (fun _ _ _ h => h) (Or.inr ⟨by rfl, rfl⟩) ?_ ?_
    rotate_left
    · simp only [Act.put, List.setIfInBounds_toArray, List.set_cons_zero, List.set_cons_succ, i64_w, i32_w]
      rfl
    refine pure_ (i := 8) (N := some 25) (v := undef) (a' := ?_) #[true, true, true, true, true, true, true, true, true, false, false, false, false, false, false, false, false, false] rfl rfl (by kernel_rfl) (fun _ _ _ h => h) (Or.inr ⟨by rfl, rfl⟩) ?_ ?_
    rotate_left
    · simp only [Act.put, List.setIfInBounds_toArray, List.set_cons_zero, List.set_cons_succ, i64_w, i32_w]
      rfl
    refine pure_ (i := 9) (N := some 26) (v := ?_) (a' := ?_) #[true, true, true, true, true, true, true, true, true, true, false, false, false, false, false, false, false, false] rfl rfl (by kernel_rfl) (fun _ _ _ h => h) (Or.inl ⟨by rfl, ?_⟩) ?_ ?_
    rotate_left
    · intro w'
      go_simp
      with_reducible rfl
    rotate_left
    · simp only [Act.put, List.setIfInBounds_toArray, List.set_cons_zero, List.set_cons_succ, i64_w, i32_w]
      rfl
    refine pure_ (i := 10) (N := some 27) (v := ?_) (a' := ?_) #[true, true, true, true, true, true, true, true, true, true, true, false, false, false, false, false, false, false] rfl rfl (by kernel_rfl) (fun _ _ _ h => h) (Or.inl ⟨by rfl, ?_⟩) ?_ ?_
    rotate_left
    · intro w'
      go_simp
      with_reducible rfl
    rotate_left
    · simp only [Act.put, List.setIfInBounds_toArray, List.set_cons_zero, List.set_cons_succ, i64_w, i32_w]
      rfl
    refine pure_ (i := 11) (N := some 28) (v := undef) (a' := ?_) #[true, true, true, true, true, true, true, true, true, true, true, true, false, false, false, false, false, false] rfl rfl (by kernel_rfl) (fun _ _ _ h => h) (Or.inr ⟨by rfl, rfl⟩) ?_ ?_
    rotate_left
    · simp only [Act.put, List.setIfInBounds_toArray, List.set_cons_zero, List.set_cons_succ, i64_w, i32_w]
      rfl
    refine pure_ (i := 12) (N := some 29) (v := undef) (a' := ?_) #[true, true, true, true, true, true, true, true, true, true, true, true, true, false, false, false, false, false] rfl rfl (by kernel_rfl) (fun _ _ _ h => h) (Or.inr ⟨by rfl, rfl⟩) ?_ ?_
    rotate_left
    · simp only [Act.put, List.setIfInBounds_toArray, List.set_cons_zero, List.set_cons_succ, i64_w, i32_w]
      rfl
    refine pure_ (i := 13) (N := some 30) (v := undef) (a' := ?_) #[true, true, true, true, true, true, true, true, true, true, true, true, true, true, false, false, false, false] rfl rfl (by kernel_rfl) (fun _ _ _ h => h) (Or.inr ⟨by rfl, rfl⟩) ?_ ?_
    rotate_left
    · simp only [Act.put, List.setIfInBounds_toArray, List.set_cons_zero, List.set_cons_succ, i64_w, i32_w]
      rfl
    refine pure_ (i := 14) (N := some 31) (v := undef) (a' := ?_) #[true, true, true, true, true, true, true, true, true, true, true, true, true, true, true, false, false, false] rfl rfl (by kernel_rfl) (fun _ _ _ h => h) (Or.inr ⟨by rfl, rfl⟩) ?_ ?_
    rotate_left
    · simp only [Act.put, List.setIfInBounds_toArray, List.set_cons_zero, List.set_cons_succ, i64_w, i32_w]
      rfl
    refine pure_ (i := 15) (N := some 32) (v := undef) (a' := ?_) #[true, true, true, true, true, true, true, true, true, true, true, true, true, true, true, true, false, false] rfl rfl (by kernel_rfl) (fun _ _ _ h => h) (Or.inr ⟨by rfl, rfl⟩) ?_ ?_
    rotate_left
    · simp only [Act.put, List.setIfInBounds_toArray, List.set_cons_zero, List.set_cons_succ, i64_w, i32_w]
      rfl
    refine pure_ (i := 16) (N := some 33) (v := undef) (a' := ?_) #[true, true, true, true, true, true, true, true, true, true, true, true, true, true, true, true, true, false] rfl rfl (by kernel_rfl) (fun _ _ _ h => h) (Or.inr ⟨by rfl, rfl⟩) ?_ ?_
    rotate_left
    · simp only [Act.put, List.setIfInBounds_toArray, List.set_cons_zero, List.set_cons_succ, i64_w, i32_w]
      rfl
    refine pure_ (i := 17) (N := some 34) (v := ?_) (a' := ?_) #[true, true, true, true, true, true, true, true, true, true, true, true, true, true, true, true, true, true] rfl rfl (by kernel_rfl) (fun _ _ _ h => h) (Or.inl ⟨by rfl, ?_⟩) ?_ ?_
    rotate_left
    · intro w'
      go_simp
      with_reducible rfl
    rotate_left
    · simp only [Act.put, List.setIfInBounds_toArray, List.set_cons_zero, List.set_cons_succ, i64_w, i32_w]
      rfl
    refine done_ (by kernel_rfl) ?_
    have HXE := Lib.hid hX3
    have HYE := Lib.hid hY3
    have HBE := Lib.hid hB3
    clear hHeld hX3 hY3 hB3 hp3 hb3
    go_wp2_with (first | (go_at_call 17; refine (works_any _).mono ?_; rintro e wz ⟨rfl, hgz⟩; have HBZ := Lib.hid (bl_trans HBE.out hgz.below); clear hgz))
    go_ret
    exact ⟨rfl, HBZ.out⟩
  · skip
    refine hK.out _ _ ⟨cell_blk hX3 0 rfl, cell_blk hX3 1 rfl, cell_blk hX3 2 rfl, cell_blk hX3 3 rfl, cell_blk hX3 4 rfl, cell_blk hX3 5 rfl, cell_blk hY3 0 rfl, cell_blk hY3 1 rfl, cell_blk hY3 2 rfl, cell_blk hY3 3 rfl⟩ (fun hHeld => ?_)
    clear hK K
    refine norm_ (a' := ?_) ?_ ?_
    rotate_left
    · show Act.put _ (some 19) _ = _
      simp only [Act.put, List.setIfInBounds_toArray, List.set_cons_zero, List.set_cons_succ, i64_w, i32_w]
      rfl
    refine pure_ (i := 3) (N := some 20) (v := ?_) (a' := ?_) #[true, true, true, true, false, false, false, false, false, false, false, false, false, false, false, false, false, false] rfl rfl (by kernel_rfl) (fun _ _ _ h => h) (Or.inl ⟨by rfl, ?_⟩) ?_ ?_
    rotate_left
    · intro w'
      go_simp
      with_reducible rfl
    rotate_left
    · simp only [Act.put, List.setIfInBounds_toArray, List.set_cons_zero, List.set_cons_succ, i64_w, i32_w]
      rfl
    refine pure_ (i := 4) (N := some 21) (v := ?_) (a' := ?_) #[true, true, true, true, true, false, false, false, false, false, false, false, false, false, false, false, false, false] rfl rfl (by kernel_rfl) (fun _ _ _ h => h) (Or.inl ⟨by rfl, ?_⟩) ?_ ?_
    rotate_left
    · intro w'
      go_simp
      with_reducible rfl
    rotate_left
    · simp only [Act.put, List.setIfInBounds_toArray, List.set_cons_zero, List.set_cons_succ, i64_w, i32_w]
      rfl
    refine take_ (i := 5) (N := some 22) (v := ?_) (a' := ?_) #[true, true, true, true, true, true, false, false, false, false, false, false, false, false, false, false, false, false] rfl rfl (by kernel_rfl) (fun _ _ _ h => h) (Or.inl ⟨by rfl, ?_⟩) hHeld ?_ ?_
    rotate_left
    · rintro w' ⟨s0, s1, s2, s3, s4, s5, s6, s7, s8, s9⟩
      go_simp
      with_reducible rfl
    rotate_left
    · simp only [Act.put, List.setIfInBounds_toArray, List.set_cons_zero, List.set_cons_succ, i64_w, i32_w]
      rfl
    refine one_ (i := 6) (N := some 23) #[true, true, true, true, true, true, true, false, false, false, false, false, false, false, false, false, false, false] rfl rfl (by kernel_rfl) (by decide) (fun K hK => ?_)
    refine goes_ Tryz.func14 (by kernel_rfl) rfl #[.agg #[.int .i64 kv, .string vx, .slice akv nkv ckv, .slice a1v n1v c1v]] (by rfl) rfl rfl (by simp only [List.map_toArray, List.map_cons, List.map_nil]; rfl) ?_
    with_reducible refine (value_any v m _ _ _ _ _ _ _ _ _ HBV.out HW.out (HM.out.trans (mle_below hB3))).mono ?_
    rintro e w4 ⟨kd4, tx4, ak4, nk4, ck4, a14, n14, c14, rfl, hmv4, hb4⟩
    refine ⟨_, rfl, ?_⟩
    have hX4 := bl_heap hb4 hX3
    have hY4 := bl_heap hb4 hY3
    have hB4 := bl_trans hB3 hb4
    refine hK.out _ _ ⟨cell_blk hX4 0 rfl, cell_blk hX4 1 rfl, cell_blk hX4 2 rfl, cell_blk hX4 3 rfl, cell_blk hX4 4 rfl, cell_blk hX4 5 rfl, cell_blk hY4 0 rfl, cell_blk hY4 1 rfl, cell_blk hY4 2 rfl, cell_blk hY4 3 rfl⟩ (fun hHeld => ?_)
    clear hK K
    refine norm_ (a' := ?_) ?_ ?_
    rotate_left
    · show Act.put _ (some 23) _ = _
      simp only [Act.put, List.setIfInBounds_toArray, List.set_cons_zero, List.set_cons_succ, i64_w, i32_w]
      rfl
    refine one_ (i := 7) (N := some 24) #[true, true, true, true, true, true, true, true, false, false, false, false, false, false, false, false, false, false] rfl rfl (by kernel_rfl) (by decide) (fun K hK => ?_)
    refine goes_ Tryz.func13 (by kernel_rfl) rfl #[.agg #[.int .i64 kd4, .string tx4, .slice ak4 nk4 ck4, .slice a14 n14 c14]] (by rfl) rfl rfl (by simp only [List.map_toArray, List.map_cons, List.map_nil]; rfl) ?_
    with_reducible refine (HPV.out _ _ _ _ _ _ _ _ _ _ hmv4 (fr_le (HM.out.trans (mle_below hB4)))).mono ?_
    rintro e w5 ⟨rfl, hg5⟩
    refine ⟨_, rfl, ?_⟩
    have hX5 := bl_heap hg5.below hX4
    have hY5 := bl_heap hg5.below hY4
    have hB5 := bl_trans hB4 hg5.below
    refine hK.out _ _ ⟨cell_blk hX5 0 rfl, cell_blk hX5 1 rfl, cell_blk hX5 2 rfl, cell_blk hX5 3 rfl, cell_blk hX5 4 rfl, cell_blk hX5 5 rfl, cell_blk hY5 0 rfl, cell_blk hY5 1 rfl, cell_blk hY5 2 rfl, cell_blk hY5 3 rfl⟩ (fun hHeld => ?_)
    clear hK K
    refine norm_ (a' := ?_) ?_ ?_
    rotate_left
    · show Act.put _ (some 24) _ = _
      simp only [Act.put, List.setIfInBounds_toArray, List.set_cons_zero, List.set_cons_succ, i64_w, i32_w]
      rfl
    refine pure_ (i := 8) (N := some 25) (v := ?_) (a' := ?_) #[true, true, true, true, true, true, true, true, true, false, false, false, false, false, false, false, false, false] rfl rfl (by kernel_rfl) (fun _ _ _ h => h) (Or.inl ⟨by rfl, ?_⟩) ?_ ?_
    rotate_left
    · intro w'
      go_simp
      with_reducible rfl
    rotate_left
    · simp only [Act.put, List.setIfInBounds_toArray, List.set_cons_zero, List.set_cons_succ, i64_w, i32_w]
      rfl
    refine pure_ (i := 9) (N := some 26) (v := ?_) (a' := ?_) #[true, true, true, true, true, true, true, true, true, true, false, false, false, false, false, false, false, false] rfl rfl (by kernel_rfl) (fun _ _ _ h => h) (Or.inl ⟨by rfl, ?_⟩) ?_ ?_
    rotate_left
    · intro w'
      go_simp
      with_reducible rfl
    rotate_left
    · simp only [Act.put, List.setIfInBounds_toArray, List.set_cons_zero, List.set_cons_succ, i64_w, i32_w]
      rfl
    refine pure_ (i := 10) (N := some 27) (v := ?_) (a' := ?_) #[true, true, true, true, true, true, true, true, true, true, true, false, false, false, false, false, false, false] rfl rfl (by kernel_rfl) (fun _ _ _ h => h) (Or.inl ⟨by rfl, ?_⟩) ?_ ?_
    rotate_left
    · intro w'
      go_simp
      with_reducible rfl
    rotate_left
    · simp only [Act.put, List.setIfInBounds_toArray, List.set_cons_zero, List.set_cons_succ, i64_w, i32_w]
      rfl
    refine pure_ (i := 11) (N := some 28) (v := undef) (a' := ?_) #[true, true, true, true, true, true, true, true, true, true, true, true, false, false, false, false, false, false] rfl rfl (by kernel_rfl) (fun _ _ _ h => h) (Or.inr ⟨by rfl, rfl⟩) ?_ ?_
    rotate_left
    · simp only [Act.put, List.setIfInBounds_toArray, List.set_cons_zero, List.set_cons_succ, i64_w, i32_w]
      rfl
    refine pure_ (i := 12) (N := some 29) (v := undef) (a' := ?_) #[true, true, true, true, true, true, true, true, true, true, true, true, true, false, false, false, false, false] rfl rfl (by kernel_rfl) (fun _ _ _ h => h) (Or.inr ⟨by rfl, rfl⟩) ?_ ?_
    rotate_left
    · simp only [Act.put, List.setIfInBounds_toArray, List.set_cons_zero, List.set_cons_succ, i64_w, i32_w]
      rfl
    refine pure_ (i := 13) (N := some 30) (v := undef) (a' := ?_) #[true, true, true, true, true, true, true, true, true, true, true, true, true, true, false, false, false, false] rfl rfl (by kernel_rfl) (fun _ _ _ h => h) (Or.inr ⟨by rfl, rfl⟩) ?_ ?_
    rotate_left
    · simp only [Act.put, List.setIfInBounds_toArray, List.set_cons_zero, List.set_cons_succ, i64_w, i32_w]
      rfl
    refine pure_ (i := 14) (N := some 31) (v := undef) (a' := ?_) #[true, true, true, true, true, true, true, true, true, true, true, true, true, true, true, false, false, false] rfl rfl (by kernel_rfl) (fun _ _ _ h => h) (Or.inr ⟨by rfl, rfl⟩) ?_ ?_
    rotate_left
    · simp only [Act.put, List.setIfInBounds_toArray, List.set_cons_zero, List.set_cons_succ, i64_w, i32_w]
      rfl
    refine pure_ (i := 15) (N := some 32) (v := undef) (a' := ?_) #[true, true, true, true, true, true, true, true, true, true, true, true, true, true, true, true, false, false] rfl rfl (by kernel_rfl) (fun _ _ _ h => h) (Or.inr ⟨by rfl, rfl⟩) ?_ ?_
    rotate_left
    · simp only [Act.put, List.setIfInBounds_toArray, List.set_cons_zero, List.set_cons_succ, i64_w, i32_w]
      rfl
    refine pure_ (i := 16) (N := some 33) (v := undef) (a' := ?_) #[true, true, true, true, true, true, true, true, true, true, true, true, true, true, true, true, true, false] rfl rfl (by kernel_rfl) (fun _ _ _ h => h) (Or.inr ⟨by rfl, rfl⟩) ?_ ?_
    rotate_left
    · simp only [Act.put, List.setIfInBounds_toArray, List.set_cons_zero, List.set_cons_succ, i64_w, i32_w]
      rfl
    refine pure_ (i := 17) (N := some 34) (v := ?_) (a' := ?_) #[true, true, true, true, true, true, true, true, true, true, true, true, true, true, true, true, true, true] rfl rfl (by kernel_rfl) (fun _ _ _ h => h) (Or.inl ⟨by rfl, ?_⟩) ?_ ?_
    rotate_left
    · intro w'
      go_simp
      with_reducible rfl
    rotate_left
    · simp only [Act.put, List.setIfInBounds_toArray, List.set_cons_zero, List.set_cons_succ, i64_w, i32_w]
      rfl
    refine done_ (by kernel_rfl) ?_
    have HXE := Lib.hid hX5
    have HYE := Lib.hid hY5
    have HBE := Lib.hid hB5
    clear hHeld hX3 hY3 hB3 hp3 hb3 hX4 hY4 hB4 hb4 hmv4 hX5 hY5 hB5 hg5
    go_wp2_with (first | (go_at_call 17; refine (works_any _).mono ?_; rintro e wz ⟨rfl, hgz⟩; have HBZ := Lib.hid (bl_trans HBE.out hgz.below); clear hgz))
    go_ret
    exact ⟨rfl, HBZ.out⟩
set_option maxHeartbeats 8000000 in
set_option maxRecDepth 100000 in
theorem ls9_in0 {t : IT} {v : Vl} {m : Mem} {kd : Int} {nm tx : ByteArray} {ak a1 a2 : Option Addr} {nk ck n1 c1 n2 c2 : Nat} {kv : Int} {vx : ByteArray} {akv a1v : Option Addr} {nkv ckv n1v c1v : Nat} {w : World} (hb : BdI t) (hbv : BdV v) (hv : MIT m (itCells kd nm tx ak nk ck a1 n1 c1 a2 n2 c2) t) (hw : MV m (vlCells kv vx akv nkv ckv a1v n1v c1v) v) (hm : MLe m w.cell?) (hp : PV (valOf v)) (hin : ¬ InP (kindOf t) (valOf v)) :
    Calls Tryz.prog 9 #[.agg #[.int .i64 kd, .string nm, .string tx, .slice ak nk ck, .slice a1 n1 c1, .slice a2 n2 c2], .agg #[.int .i64 kv, .string vx, .slice akv nkv ckv, .slice a1v n1v c1v]] w (LawQ w) := by
  have HF1 := Lib.hid (fun (W : World) (h : MLe m W.cell?) => show Calls Tryz.prog 10 #[.agg #[.int .i64 kd, .string nm, .string tx, .slice ak nk ck, .slice a1 n1 c1, .slice a2 n2 c2]] W (SomeB W) from zzFits1_any hb hv h)
  have HF4 := Lib.hid (fun (W : World) (h : MLe m W.cell?) => show Calls Tryz.prog 11 #[.agg #[.int .i64 kv, .string vx, .slice akv nkv ckv, .slice a1v n1v c1v]] W (SomeB W) from by
    obtain ⟨rfl, rfl, rfl, rfl, lk, l1, rk, r1⟩ := hw.open
    exact zzFits4_any lk rk h hbv.out.2.2.1 hbv.out.1 l1.1 l1.2)
  have HPR := Lib.hid (fun (W : World) (b : Nat) (h : MLe m W.cell?) (hx : W.heap[b]? = some (.cells #[.int .i64 kd, .string nm, .string tx, .slice ak nk ck, .slice a1 n1 c1, .slice a2 n2 c2] 25 (0, 0))) => show Calls Tryz.prog 12 #[.slice (some ⟨b, 0, none⟩) 1 1] W (PrpQ t W) from proper1 hb hv h hx)
  have HPV := Lib.hid (fun (W : World) (m' : Mem) (kd' tx' ak' nk' ck' a1' n1' c1') (h1 : MV m' (vlCells kd' tx' ak' nk' ck' a1' n1' c1') (valOf v)) (h2 : MLe m' W.cell?) => show Calls Tryz.prog 13 #[.agg #[.int .i64 kd', .string tx', .slice ak' nk' ck', .slice a1' n1' c1']] W (BoP true W) from
    (properValue_any (SizeOf.sizeOf (valOf v) + 1) (valOf v) m' _ _ _ _ _ _ _ _ W (Nat.lt_succ_self _) (bd_val hbv) h1 h2).mono fun e w' h => ⟨by rw [h.1, properV_true hp], h.2⟩)
  have HIV := Lib.hid hp
  have HINP := Lib.hid hin
  have HM := Lib.hid hm
  have HV := Lib.hid hv
  have HW := Lib.hid hw
  have HBI := Lib.hid hb
  have HBV := Lib.hid hbv
  clear hm hv hw hb hbv hp hin
  go_enter Tryz.func9, Tryz.ntmps9
  go_wp2_with (first
    | (go_at_call 10; refine (HF1.out _ (mle_alloc (mle_alloc HM.out _) _)).mono ?_; rintro e w1 ⟨b, rfl, hg⟩; have HX1 := Lib.hid (bl_heap hg.below (al_old (al_new rfl))); have HY1 := Lib.hid (show w1.heap[w.heap.size + 1]? = some (.cells #[.int .i64 kv, .string vx, .slice akv nkv ckv, .slice a1v n1v c1v] 29 (0, 0)) from bl_heap hg.below (al_new (by simp))); have HB1 := Lib.hid (bl_trans (bl_alloc (bl_alloc (Below.refl _ _) _) _) hg.below); obtain ⟨x0, x1, x2, x3, x4, x5⟩ := cells6 HX1.out; obtain ⟨y0, y1, y2, y3⟩ := cells4 HY1.out; clear hg; cases b)
    | (go_at_call 11; refine (HF4.out _ (HM.out.trans (mle_below HB1.out))).mono ?_; rintro e w2 ⟨b, rfl, hg⟩; have HX2 := Lib.hid (bl_heap hg.below HX1.out); have HY2 := Lib.hid (bl_heap hg.below HY1.out); have HB2 := Lib.hid (bl_trans HB1.out hg.below); clear hg x0 x1 x2 x3 x4 x5 y0 y1 y2 y3; cases b))
  · go_ret
    exact ⟨rfl, HB1.out⟩
  · go_ret
    exact ⟨rfl, HB2.out⟩
  have HM2 := Lib.hid (HM.out.trans (mle_below HB2.out))
  refine start_ (n := 18) (S := fun w' => w'.cell? ⟨w.heap.size, 0, none⟩ = some (.int .i64 kd) ∧ w'.cell? ⟨w.heap.size, 1, none⟩ = some (.string nm) ∧ w'.cell? ⟨w.heap.size, 2, none⟩ = some (.string tx) ∧ w'.cell? ⟨w.heap.size, 3, none⟩ = some (.slice ak nk ck) ∧ w'.cell? ⟨w.heap.size, 4, none⟩ = some (.slice a1 n1 c1) ∧ w'.cell? ⟨w.heap.size, 5, none⟩ = some (.slice a2 n2 c2) ∧ w'.cell? ⟨w.heap.size + 1, 0, none⟩ = some (.int .i64 kv) ∧ w'.cell? ⟨w.heap.size + 1, 1, none⟩ = some (.string vx) ∧ w'.cell? ⟨w.heap.size + 1, 2, none⟩ = some (.slice akv nkv ckv) ∧ w'.cell? ⟨w.heap.size + 1, 3, none⟩ = some (.slice a1v n1v c1v)) (ds := []) #[false, false, false, false, false, false, false, false, false, false, false, false, false, false, false, false, false, false] (by kernel_rfl) rfl rfl ⟨cell_blk HX2.out 0 rfl, cell_blk HX2.out 1 rfl, cell_blk HX2.out 2 rfl, cell_blk HX2.out 3 rfl, cell_blk HX2.out 4 rfl, cell_blk HX2.out 5 rfl, cell_blk HY2.out 0 rfl, cell_blk HY2.out 1 rfl, cell_blk HY2.out 2 rfl, cell_blk HY2.out 3 rfl⟩ (fun hHeld => ?_)
  refine take_ (i := 0) (N := some 17) (v := ?_) (a' := ?_) #[true, false, false, false, false, false, false, false, false, false, false, false, false, false, false, false, false, false] rfl rfl (by kernel_rfl) (fun _ _ _ h => h) (Or.inl ⟨by rfl, ?_⟩) hHeld ?_ ?_
  rotate_left
  · rintro w' ⟨s0, s1, s2, s3, s4, s5, s6, s7, s8, s9⟩
    go_simp
    with_reducible rfl
  rotate_left
  · simp only [Act.put, List.setIfInBounds_toArray, List.set_cons_zero, List.set_cons_succ, i64_w, i32_w]
    rfl
  refine one_ (i := 1) (N := some 18) #[true, true, false, false, false, false, false, false, false, false, false, false, false, false, false, false, false, false] rfl rfl (by kernel_rfl) (by decide) (fun K hK => ?_)
  refine value_ (w1 := ?_) (v := ?_) (by rfl) rfl ?_ ?_
  rotate_left 2
  · go_simp
    constructor
    · rfl
    · rfl
  refine hK.out _ _ ⟨cell_blk (al_old HX2.out) 0 rfl, cell_blk (al_old HX2.out) 1 rfl, cell_blk (al_old HX2.out) 2 rfl, cell_blk (al_old HX2.out) 3 rfl, cell_blk (al_old HX2.out) 4 rfl, cell_blk (al_old HX2.out) 5 rfl, cell_blk (al_old HY2.out) 0 rfl, cell_blk (al_old HY2.out) 1 rfl, cell_blk (al_old HY2.out) 2 rfl, cell_blk (al_old HY2.out) 3 rfl⟩ (fun hHeld => ?_)
  clear hK K
  refine norm_ (a' := ?_) ?_ ?_
  rotate_left
  · show Act.put _ (some 18) _ = _
    simp only [Act.put, List.setIfInBounds_toArray, List.set_cons_zero, List.set_cons_succ, i64_w, i32_w]
    rfl
  refine one_ (i := 2) (N := some 19) #[true, true, true, false, false, false, false, false, false, false, false, false, false, false, false, false, false, false] rfl rfl (by kernel_rfl) (by decide) (fun K hK => ?_)
  refine goes_ Tryz.func12 (by kernel_rfl) rfl #[.slice (some ⟨w2.heap.size, 0, none⟩) 1 1] (by rfl) rfl rfl (by simp only [List.map_toArray, List.map_cons, List.map_nil]; rfl) ?_
  with_reducible refine (HPR.out _ w2.heap.size (mle_drew (mle_alloc HM2.out _)) (al_new rfl)).mono ?_
  rintro e w3 ⟨b, rfl, hp3, hb3⟩
  refine ⟨_, rfl, ?_⟩
  have hX3 := bl_heap hb3 (al_old HX2.out)
  have hY3 := bl_heap hb3 (al_old HY2.out)
  have hB3 := bl_trans (bl_alloc HB2.out _).drew hb3
  cases b
  · skip
    refine hK.out _ _ ⟨cell_blk hX3 0 rfl, cell_blk hX3 1 rfl, cell_blk hX3 2 rfl, cell_blk hX3 3 rfl, cell_blk hX3 4 rfl, cell_blk hX3 5 rfl, cell_blk hY3 0 rfl, cell_blk hY3 1 rfl, cell_blk hY3 2 rfl, cell_blk hY3 3 rfl⟩ (fun hHeld => ?_)
    clear hK K
    refine norm_ (a' := ?_) ?_ ?_
    rotate_left
    · show Act.put _ (some 19) _ = _
      simp only [Act.put, List.setIfInBounds_toArray, List.set_cons_zero, List.set_cons_succ, i64_w, i32_w]
      rfl
    refine pure_ (i := 3) (N := some 20) (v := ?_) (a' := ?_) #[true, true, true, true, false, false, false, false, false, false, false, false, false, false, false, false, false, false] rfl rfl (by kernel_rfl) (fun _ _ _ h => h) (Or.inl ⟨by rfl, ?_⟩) ?_ ?_
    rotate_left
    · intro w'
      go_simp
      with_reducible rfl
    rotate_left
    · simp only [Act.put, List.setIfInBounds_toArray, List.set_cons_zero, List.set_cons_succ, i64_w, i32_w]
      rfl
    refine pure_ (i := 4) (N := some 21) (v := ?_) (a' := ?_) #[true, true, true, true, true, false, false, false, false, false, false, false, false, false, false, false, false, false] rfl rfl (by kernel_rfl) (fun _ _ _ h => h) (Or.inl ⟨by rfl, ?_⟩) ?_ ?_
    rotate_left
    · intro w'
      go_simp
      with_reducible rfl
    rotate_left
    · simp only [Act.put, List.setIfInBounds_toArray, List.set_cons_zero, List.set_cons_succ, i64_w, i32_w]
      rfl
    refine pure_ (i := 5) (N := some 22) (v := undef) (a' := ?_) #[true, true, true, true, true, true, false, false, false, false, false, false, false, false, false, false, false, false] rfl rfl (by kernel_rfl) (fun _ _ _ h => h) (Or.inr ⟨by rfl, rfl⟩) ?_ ?_
    rotate_left
    · simp only [Act.put, List.setIfInBounds_toArray, List.set_cons_zero, List.set_cons_succ, i64_w, i32_w]
      rfl
    refine pure_ (i := 6) (N := some 23) (v := undef) (a' := ?_) #[true, true, true, true, true, true, true, false, false, false, false, false, false, false, false, false, false, false] rfl rfl (by kernel_rfl) (fun _ _ _ h => h) (Or.inr ⟨by rfl, rfl⟩) ?_ ?_
    rotate_left
    · simp only [Act.put, List.setIfInBounds_toArray, List.set_cons_zero, List.set_cons_succ, i64_w, i32_w]
      rfl
    refine pure_ (i := 7) (N := some 24) (v := undef) (a' := ?_) #[true, true, true, true, true, true, true, true, false, false, false, false, false, false, false, false, false, false] rfl rfl (by kernel_rfl) (fun _ _ _ h => h) (Or.inr ⟨by rfl, rfl⟩) ?_ ?_
    rotate_left
    · simp only [Act.put, List.setIfInBounds_toArray, List.set_cons_zero, List.set_cons_succ, i64_w, i32_w]
      rfl
    refine pure_ (i := 8) (N := some 25) (v := undef) (a' := ?_) #[true, true, true, true, true, true, true, true, true, false, false, false, false, false, false, false, false, false] rfl rfl (by kernel_rfl) (fun _ _ _ h => h) (Or.inr ⟨by rfl, rfl⟩) ?_ ?_
    rotate_left
    · simp only [Act.put, List.setIfInBounds_toArray, List.set_cons_zero, List.set_cons_succ, i64_w, i32_w]
      rfl
    refine pure_ (i := 9) (N := some 26) (v := ?_) (a' := ?_) #[true, true, true, true, true, true, true, true, true, true, false, false, false, false, false, false, false, false] rfl rfl (by kernel_rfl) (fun _ _ _ h => h) (Or.inl ⟨by rfl, ?_⟩) ?_ ?_
    rotate_left
    · intro w'
      go_simp
      with_reducible rfl
    rotate_left
    · simp only [Act.put, List.setIfInBounds_toArray, List.set_cons_zero, List.set_cons_succ, i64_w, i32_w]
      rfl
    refine pure_ (i := 10) (N := some 27) (v := ?_) (a' := ?_) #[true, true, true, true, true, true, true, true, true, true, true, false, false, false, false, false, false, false] rfl rfl (by kernel_rfl) (fun _ _ _ h => h) (Or.inl ⟨by rfl, ?_⟩) ?_ ?_
    rotate_left
    · intro w'
      go_simp
      with_reducible rfl
    rotate_left
    · simp only [Act.put, List.setIfInBounds_toArray, List.set_cons_zero, List.set_cons_succ, i64_w, i32_w]
      rfl
    refine pure_ (i := 11) (N := some 28) (v := undef) (a' := ?_) #[true, true, true, true, true, true, true, true, true, true, true, true, false, false, false, false, false, false] rfl rfl (by kernel_rfl) (fun _ _ _ h => h) (Or.inr ⟨by rfl, rfl⟩) ?_ ?_
    rotate_left
    · simp only [Act.put, List.setIfInBounds_toArray, List.set_cons_zero, List.set_cons_succ, i64_w, i32_w]
      rfl
    refine pure_ (i := 12) (N := some 29) (v := undef) (a' := ?_) #[true, true, true, true, true, true, true, true, true, true, true, true, true, false, false, false, false, false] rfl rfl (by kernel_rfl) (fun _ _ _ h => h) (Or.inr ⟨by rfl, rfl⟩) ?_ ?_
    rotate_left
    · simp only [Act.put, List.setIfInBounds_toArray, List.set_cons_zero, List.set_cons_succ, i64_w, i32_w]
      rfl
    refine pure_ (i := 13) (N := some 30) (v := undef) (a' := ?_) #[true, true, true, true, true, true, true, true, true, true, true, true, true, true, false, false, false, false] rfl rfl (by kernel_rfl) (fun _ _ _ h => h) (Or.inr ⟨by rfl, rfl⟩) ?_ ?_
    rotate_left
    · simp only [Act.put, List.setIfInBounds_toArray, List.set_cons_zero, List.set_cons_succ, i64_w, i32_w]
      rfl
    refine pure_ (i := 14) (N := some 31) (v := undef) (a' := ?_) #[true, true, true, true, true, true, true, true, true, true, true, true, true, true, true, false, false, false] rfl rfl (by kernel_rfl) (fun _ _ _ h => h) (Or.inr ⟨by rfl, rfl⟩) ?_ ?_
    rotate_left
    · simp only [Act.put, List.setIfInBounds_toArray, List.set_cons_zero, List.set_cons_succ, i64_w, i32_w]
      rfl
    refine pure_ (i := 15) (N := some 32) (v := undef) (a' := ?_) #[true, true, true, true, true, true, true, true, true, true, true, true, true, true, true, true, false, false] rfl rfl (by kernel_rfl) (fun _ _ _ h => h) (Or.inr ⟨by rfl, rfl⟩) ?_ ?_
    rotate_left
    · simp only [Act.put, List.setIfInBounds_toArray, List.set_cons_zero, List.set_cons_succ, i64_w, i32_w]
      rfl
    refine pure_ (i := 16) (N := some 33) (v := undef) (a' := ?_) #[true, true, true, true, true, true, true, true, true, true, true, true, true, true, true, true, true, false] rfl rfl (by kernel_rfl) (fun _ _ _ h => h) (Or.inr ⟨by rfl, rfl⟩) ?_ ?_
    rotate_left
    · simp only [Act.put, List.setIfInBounds_toArray, List.set_cons_zero, List.set_cons_succ, i64_w, i32_w]
      rfl
    refine pure_ (i := 17) (N := some 34) (v := ?_) (a' := ?_) #[true, true, true, true, true, true, true, true, true, true, true, true, true, true, true, true, true, true] rfl rfl (by kernel_rfl) (fun _ _ _ h => h) (Or.inl ⟨by rfl, ?_⟩) ?_ ?_
    rotate_left
    · intro w'
      go_simp
      with_reducible rfl
    rotate_left
    · simp only [Act.put, List.setIfInBounds_toArray, List.set_cons_zero, List.set_cons_succ, i64_w, i32_w]
      rfl
    refine done_ (by kernel_rfl) ?_
    have HXE := Lib.hid hX3
    have HYE := Lib.hid hY3
    have HBE := Lib.hid hB3
    clear hHeld hX3 hY3 hB3 hp3 hb3
    go_wp2_with (first | (go_at_call 17; refine (works_any _).mono ?_; rintro e wz ⟨rfl, hgz⟩; have HBZ := Lib.hid (bl_trans HBE.out hgz.below); clear hgz))
    go_ret
    exact ⟨rfl, HBZ.out⟩
  · skip
    obtain ⟨hw5, hpt⟩ := hp3 rfl
    have HPT := Lib.hid hpt
    have HW5 := Lib.hid hw5
    have HIN := Lib.hid (fun (W : World) (kv' : Int) (tx' : ByteArray) (akv' : Option Addr) (nkv' ckv' : Nat) (a1v' : Option Addr) (n1v' c1v' : Nat) (kd' : Int) (ak' : Option Addr) (nk' ck' : Nat) (a1' : Option Addr) (n1' c1' : Nat) (a2' : Option Addr) (n2' c2' : Nat) (h3 : MV W.cell? (vlCells kv' tx' akv' nkv' ckv' a1v' n1v' c1v') (valOf v)) (h4 : MST W.cell? (stCells kd' ak' nk' ck' a1' n1' c1' a2' n2' c2') (kindOf t)) => show Calls Tryz.prog 15 #[.agg #[.int .i64 kv', .string tx', .slice akv' nkv' ckv', .slice a1v' n1v' c1v'], .agg #[.int .i64 kd', .slice ak' nk' ck', .slice a1' n1' c1', .slice a2' n2' c2']] W (BoP false W) from
      (in_any (kindOf t) (valOf v) W.cell? _ _ _ _ _ _ _ _ _ _ _ _ _ _ _ _ _ _ W (by rw [kind_of hw5]; exact (pt_bt hpt).wt) (wv_of _ HIV.out) h3 h4 (MLe.refl _)).mono fun e w' h => ⟨by rw [h.1, inT_false HINP.out], h.2⟩)
    clear hw5 hpt
    refine hK.out _ _ ⟨cell_blk hX3 0 rfl, cell_blk hX3 1 rfl, cell_blk hX3 2 rfl, cell_blk hX3 3 rfl, cell_blk hX3 4 rfl, cell_blk hX3 5 rfl, cell_blk hY3 0 rfl, cell_blk hY3 1 rfl, cell_blk hY3 2 rfl, cell_blk hY3 3 rfl⟩ (fun hHeld => ?_)
    clear hK K
    refine norm_ (a' := ?_) ?_ ?_
    rotate_left
    · show Act.put _ (some 19) _ = _
      simp only [Act.put, List.setIfInBounds_toArray, List.set_cons_zero, List.set_cons_succ, i64_w, i32_w]
      rfl
    refine pure_ (i := 3) (N := some 20) (v := ?_) (a' := ?_) #[true, true, true, true, false, false, false, false, false, false, false, false, false, false, false, false, false, false] rfl rfl (by kernel_rfl) (fun _ _ _ h => h) (Or.inl ⟨by rfl, ?_⟩) ?_ ?_
    rotate_left
    · intro w'
      go_simp
      with_reducible rfl
    rotate_left
    · simp only [Act.put, List.setIfInBounds_toArray, List.set_cons_zero, List.set_cons_succ, i64_w, i32_w]
      rfl
    refine pure_ (i := 4) (N := some 21) (v := ?_) (a' := ?_) #[true, true, true, true, true, false, false, false, false, false, false, false, false, false, false, false, false, false] rfl rfl (by kernel_rfl) (fun _ _ _ h => h) (Or.inl ⟨by rfl, ?_⟩) ?_ ?_
    rotate_left
    · intro w'
      go_simp
      with_reducible rfl
    rotate_left
    · simp only [Act.put, List.setIfInBounds_toArray, List.set_cons_zero, List.set_cons_succ, i64_w, i32_w]
      rfl
    refine take_ (i := 5) (N := some 22) (v := ?_) (a' := ?_) #[true, true, true, true, true, true, false, false, false, false, false, false, false, false, false, false, false, false] rfl rfl (by kernel_rfl) (fun _ _ _ h => h) (Or.inl ⟨by rfl, ?_⟩) hHeld ?_ ?_
    rotate_left
    · rintro w' ⟨s0, s1, s2, s3, s4, s5, s6, s7, s8, s9⟩
      go_simp
      with_reducible rfl
    rotate_left
    · simp only [Act.put, List.setIfInBounds_toArray, List.set_cons_zero, List.set_cons_succ, i64_w, i32_w]
      rfl
    refine one_ (i := 6) (N := some 23) #[true, true, true, true, true, true, true, false, false, false, false, false, false, false, false, false, false, false] rfl rfl (by kernel_rfl) (by decide) (fun K hK => ?_)
    refine goes_ Tryz.func14 (by kernel_rfl) rfl #[.agg #[.int .i64 kv, .string vx, .slice akv nkv ckv, .slice a1v n1v c1v]] (by rfl) rfl rfl (by simp only [List.map_toArray, List.map_cons, List.map_nil]; rfl) ?_
    with_reducible refine (value_any v m _ _ _ _ _ _ _ _ _ HBV.out HW.out (HM.out.trans (mle_below hB3))).mono ?_
    rintro e w4 ⟨kd4, tx4, ak4, nk4, ck4, a14, n14, c14, rfl, hmv4, hb4⟩
    refine ⟨_, rfl, ?_⟩
    have hX4 := bl_heap hb4 hX3
    have hY4 := bl_heap hb4 hY3
    have hB4 := bl_trans hB3 hb4
    refine hK.out _ _ ⟨cell_blk hX4 0 rfl, cell_blk hX4 1 rfl, cell_blk hX4 2 rfl, cell_blk hX4 3 rfl, cell_blk hX4 4 rfl, cell_blk hX4 5 rfl, cell_blk hY4 0 rfl, cell_blk hY4 1 rfl, cell_blk hY4 2 rfl, cell_blk hY4 3 rfl⟩ (fun hHeld => ?_)
    clear hK K
    refine norm_ (a' := ?_) ?_ ?_
    rotate_left
    · show Act.put _ (some 23) _ = _
      simp only [Act.put, List.setIfInBounds_toArray, List.set_cons_zero, List.set_cons_succ, i64_w, i32_w]
      rfl
    refine one_ (i := 7) (N := some 24) #[true, true, true, true, true, true, true, true, false, false, false, false, false, false, false, false, false, false] rfl rfl (by kernel_rfl) (by decide) (fun K hK => ?_)
    refine goes_ Tryz.func13 (by kernel_rfl) rfl #[.agg #[.int .i64 kd4, .string tx4, .slice ak4 nk4 ck4, .slice a14 n14 c14]] (by rfl) rfl rfl (by simp only [List.map_toArray, List.map_cons, List.map_nil]; rfl) ?_
    with_reducible refine (HPV.out _ _ _ _ _ _ _ _ _ _ hmv4 (fr_le (HM.out.trans (mle_below hB4)))).mono ?_
    rintro e w5 ⟨rfl, hg5⟩
    refine ⟨_, rfl, ?_⟩
    have hX5 := bl_heap hg5.below hX4
    have hY5 := bl_heap hg5.below hY4
    have hB5 := bl_trans hB4 hg5.below
    refine hK.out _ _ ⟨cell_blk hX5 0 rfl, cell_blk hX5 1 rfl, cell_blk hX5 2 rfl, cell_blk hX5 3 rfl, cell_blk hX5 4 rfl, cell_blk hX5 5 rfl, cell_blk hY5 0 rfl, cell_blk hY5 1 rfl, cell_blk hY5 2 rfl, cell_blk hY5 3 rfl⟩ (fun hHeld => ?_)
    clear hK K
    refine norm_ (a' := ?_) ?_ ?_
    rotate_left
    · show Act.put _ (some 24) _ = _
      simp only [Act.put, List.setIfInBounds_toArray, List.set_cons_zero, List.set_cons_succ, i64_w, i32_w]
      rfl
    refine pure_ (i := 8) (N := some 25) (v := ?_) (a' := ?_) #[true, true, true, true, true, true, true, true, true, false, false, false, false, false, false, false, false, false] rfl rfl (by kernel_rfl) (fun _ _ _ h => h) (Or.inl ⟨by rfl, ?_⟩) ?_ ?_
    rotate_left
    · intro w'
      go_simp
      with_reducible rfl
    rotate_left
    · simp only [Act.put, List.setIfInBounds_toArray, List.set_cons_zero, List.set_cons_succ, i64_w, i32_w]
      rfl
    refine pure_ (i := 9) (N := some 26) (v := ?_) (a' := ?_) #[true, true, true, true, true, true, true, true, true, true, false, false, false, false, false, false, false, false] rfl rfl (by kernel_rfl) (fun _ _ _ h => h) (Or.inl ⟨by rfl, ?_⟩) ?_ ?_
    rotate_left
    · intro w'
      go_simp
      with_reducible rfl
    rotate_left
    · simp only [Act.put, List.setIfInBounds_toArray, List.set_cons_zero, List.set_cons_succ, i64_w, i32_w]
      rfl
    refine pure_ (i := 10) (N := some 27) (v := ?_) (a' := ?_) #[true, true, true, true, true, true, true, true, true, true, true, false, false, false, false, false, false, false] rfl rfl (by kernel_rfl) (fun _ _ _ h => h) (Or.inl ⟨by rfl, ?_⟩) ?_ ?_
    rotate_left
    · intro w'
      go_simp
      with_reducible rfl
    rotate_left
    · simp only [Act.put, List.setIfInBounds_toArray, List.set_cons_zero, List.set_cons_succ, i64_w, i32_w]
      rfl
    refine take_ (i := 11) (N := some 28) (v := ?_) (a' := ?_) #[true, true, true, true, true, true, true, true, true, true, true, true, false, false, false, false, false, false] rfl rfl (by kernel_rfl) (fun _ _ _ h => h) (Or.inl ⟨by rfl, ?_⟩) hHeld ?_ ?_
    rotate_left
    · rintro w' ⟨s0, s1, s2, s3, s4, s5, s6, s7, s8, s9⟩
      go_simp
      with_reducible rfl
    rotate_left
    · simp only [Act.put, List.setIfInBounds_toArray, List.set_cons_zero, List.set_cons_succ, i64_w, i32_w]
      rfl
    refine take_ (i := 13) (N := some 30) (v := ?_) (a' := ?_) #[true, true, true, true, true, true, true, true, true, true, true, true, false, true, false, false, false, false] rfl rfl (by kernel_rfl) (fun _ _ _ h => h) (Or.inl ⟨by rfl, ?_⟩) hHeld ?_ ?_
    rotate_left
    · rintro w' ⟨s0, s1, s2, s3, s4, s5, s6, s7, s8, s9⟩
      go_simp
      with_reducible rfl
    rotate_left
    · simp only [Act.put, List.setIfInBounds_toArray, List.set_cons_zero, List.set_cons_succ, i64_w, i32_w]
      rfl
    refine one_ (i := 12) (N := some 29) #[true, true, true, true, true, true, true, true, true, true, true, true, true, true, false, false, false, false] rfl rfl (by kernel_rfl) (by decide) (fun K hK => ?_)
    refine goes_ Tryz.func14 (by kernel_rfl) rfl #[.agg #[.int .i64 kv, .string vx, .slice akv nkv ckv, .slice a1v n1v c1v]] (by rfl) rfl rfl (by simp only [List.map_toArray, List.map_cons, List.map_nil]; rfl) ?_
    with_reducible refine (value_any v m _ _ _ _ _ _ _ _ _ HBV.out HW.out (HM.out.trans (mle_below hB5))).mono ?_
    rintro e w6 ⟨kd6, tx6, ak6, nk6, ck6, a16, n16, c16, rfl, hmv6, hb6⟩
    refine ⟨_, rfl, ?_⟩
    have hX6 := bl_heap hb6 hX5
    have hY6 := bl_heap hb6 hY5
    have hB6 := bl_trans hB5 hb6
    refine hK.out _ _ ⟨cell_blk hX6 0 rfl, cell_blk hX6 1 rfl, cell_blk hX6 2 rfl, cell_blk hX6 3 rfl, cell_blk hX6 4 rfl, cell_blk hX6 5 rfl, cell_blk hY6 0 rfl, cell_blk hY6 1 rfl, cell_blk hY6 2 rfl, cell_blk hY6 3 rfl⟩ (fun hHeld => ?_)
    clear hK K
    refine norm_ (a' := ?_) ?_ ?_
    rotate_left
    · show Act.put _ (some 29) _ = _
      simp only [Act.put, List.setIfInBounds_toArray, List.set_cons_zero, List.set_cons_succ, i64_w, i32_w]
      rfl
    refine one_ (i := 14) (N := some 31) #[true, true, true, true, true, true, true, true, true, true, true, true, true, true, true, false, false, false] rfl rfl (by kernel_rfl) (by decide) (fun K hK => ?_)
    refine goes_ Tryz.func16 (by kernel_rfl) rfl #[.agg #[.int .i64 kd, .string nm, .string tx, .slice ak nk ck, .slice a1 n1 c1, .slice a2 n2 c2]] (by rfl) rfl rfl (by simp only [List.map_toArray, List.map_cons, List.map_nil]; rfl) ?_
    with_reducible refine (kind_any t m _ _ _ _ _ _ _ _ _ _ _ _ _ HBI.out HV.out (HM.out.trans (mle_below hB6))).mono ?_
    rintro e w7 ⟨kd7, ak7, nk7, ck7, a17, n17, c17, a27, n27, c27, rfl, hmt7, hb7⟩
    refine ⟨_, rfl, ?_⟩
    have hX7 := bl_heap hb7 hX6
    have hY7 := bl_heap hb7 hY6
    have hB7 := bl_trans hB6 hb7
    refine hK.out _ _ ⟨cell_blk hX7 0 rfl, cell_blk hX7 1 rfl, cell_blk hX7 2 rfl, cell_blk hX7 3 rfl, cell_blk hX7 4 rfl, cell_blk hX7 5 rfl, cell_blk hY7 0 rfl, cell_blk hY7 1 rfl, cell_blk hY7 2 rfl, cell_blk hY7 3 rfl⟩ (fun hHeld => ?_)
    clear hK K
    refine norm_ (a' := ?_) ?_ ?_
    rotate_left
    · show Act.put _ (some 31) _ = _
      simp only [Act.put, List.setIfInBounds_toArray, List.set_cons_zero, List.set_cons_succ, i64_w, i32_w]
      rfl
    refine one_ (i := 15) (N := some 32) #[true, true, true, true, true, true, true, true, true, true, true, true, true, true, true, true, false, false] rfl rfl (by kernel_rfl) (by decide) (fun K hK => ?_)
    refine goes_ Tryz.func15 (by kernel_rfl) rfl #[.agg #[.int .i64 kd6, .string tx6, .slice ak6 nk6 ck6, .slice a16 n16 c16], .agg #[.int .i64 kd7, .slice ak7 nk7 ck7, .slice a17 n17 c17, .slice a27 n27 c27]] (by rfl) rfl rfl (by simp only [List.map_toArray, List.map_cons, List.map_nil]; rfl) ?_
    with_reducible refine (HIN.out w7 _ _ _ _ _ _ _ _ _ _ _ _ _ _ _ _ _ _ (hmv6.mono ((fr_le (HM.out.trans (mle_below hB6))).trans (mle_below hb7))) (hmt7.mono (fr_le (HM.out.trans (mle_below hB7))))).mono ?_
    rintro e w8 ⟨rfl, hg8⟩
    refine ⟨_, rfl, ?_⟩
    have hX8 := bl_heap hg8.below hX7
    have hY8 := bl_heap hg8.below hY7
    have hB8 := bl_trans hB7 hg8.below
    refine hK.out _ _ ⟨cell_blk hX8 0 rfl, cell_blk hX8 1 rfl, cell_blk hX8 2 rfl, cell_blk hX8 3 rfl, cell_blk hX8 4 rfl, cell_blk hX8 5 rfl, cell_blk hY8 0 rfl, cell_blk hY8 1 rfl, cell_blk hY8 2 rfl, cell_blk hY8 3 rfl⟩ (fun hHeld => ?_)
    clear hK K
    refine norm_ (a' := ?_) ?_ ?_
    rotate_left
    · show Act.put _ (some 32) _ = _
      simp only [Act.put, List.setIfInBounds_toArray, List.set_cons_zero, List.set_cons_succ, i64_w, i32_w]
      rfl
    refine pure_ (i := 16) (N := some 33) (v := ?_) (a' := ?_) #[true, true, true, true, true, true, true, true, true, true, true, true, true, true, true, true, true, false] rfl rfl (by kernel_rfl) (fun _ _ _ h => h) (Or.inl ⟨by rfl, ?_⟩) ?_ ?_
    rotate_left
    · intro w'
      go_simp
      with_reducible rfl
    rotate_left
    · simp only [Act.put, List.setIfInBounds_toArray, List.set_cons_zero, List.set_cons_succ, i64_w, i32_w]
      rfl
    refine pure_ (i := 17) (N := some 34) (v := ?_) (a' := ?_) #[true, true, true, true, true, true, true, true, true, true, true, true, true, true, true, true, true, true] rfl rfl (by kernel_rfl) (fun _ _ _ h => h) (Or.inl ⟨by rfl, ?_⟩) ?_ ?_
    rotate_left
    · intro w'
      go_simp
      with_reducible rfl
    rotate_left
    · simp only [Act.put, List.setIfInBounds_toArray, List.set_cons_zero, List.set_cons_succ, i64_w, i32_w]
      rfl
    refine done_ (by kernel_rfl) ?_
    have HXE := Lib.hid hX8
    have HYE := Lib.hid hY8
    have HBE := Lib.hid hB8
    clear hHeld hX3 hY3 hB3 hp3 hb3 hX4 hY4 hB4 hb4 hmv4 hX5 hY5 hB5 hg5 hX6 hY6 hB6 hb6 hmv6 hX7 hY7 hB7 hb7 hmt7 hX8 hY8 hB8 hg8
    go_wp2_with (first | (go_at_call 17; refine (works_any _).mono ?_; rintro e wz ⟨rfl, hgz⟩; have HBZ := Lib.hid (bl_trans HBE.out hgz.below); clear hgz))
    go_ret
    exact ⟨rfl, HBZ.out⟩
end Go.Proofs.YtaglgokeejjagaaGreat
