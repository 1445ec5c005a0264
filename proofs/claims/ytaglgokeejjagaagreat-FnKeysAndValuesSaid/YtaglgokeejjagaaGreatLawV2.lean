/- The walk of the law FnKeysAndValues: the loop over the entries. -/
import Derived.Test.YtaglgokeejjagaaGreatLawV
import Derived.Test.YtaglgokeejjagaaGreatIKv
namespace Go.Proofs.YtaglgokeejjagaaGreat
set_option linter.unusedVariables false
set_option linter.unusedSimpArgs false
open Go.RowKit Go.Sort Go.Proofs.YtaglgokeejjagaaGreatW.PrintLast

set_option maxHeartbeats 8000000 in
set_option maxRecDepth 100000 in
theorem ls9_in1 {t : IT} {v : Vl} {m : Mem} {kd : Int} {nm tx : ByteArray} {ak a1 a2 : Option Addr} {nk ck n1 c1 n2 c2 : Nat} {kv : Int} {vx : ByteArray} {akv a1v : Option Addr} {nkv ckv n1v c1v : Nat} {w : World} (hb : BdI t) (hbv : BdV v) (hv : MIT m (itCells kd nm tx ak nk ck a1 n1 c1 a2 n2 c2) t) (hw : MV m (vlCells kv vx akv nkv ckv a1v n1v c1v) v) (hm : MLe m w.cell?) (hp : PV (valOf v)) (hin : InP (kindOf t) (valOf v)) :
    Calls Tryz.prog 9 #[.agg #[.int .i64 kd, .string nm, .string tx, .slice ak nk ck, .slice a1 n1 c1, .slice a2 n2 c2], .agg #[.int .i64 kv, .string vx, .slice akv nkv ckv, .slice a1v n1v c1v]] w (LawQ w) := by
  have HF1 := Lib.hid (fun (W : World) (h : MLe m W.cell?) => show Calls Tryz.prog 10 #[.agg #[.int .i64 kd, .string nm, .string tx, .slice ak nk ck, .slice a1 n1 c1, .slice a2 n2 c2]] W (SomeB W) from zzFits1_any hb hv h)
  have HF4 := Lib.hid (fun (W : World) (h : MLe m W.cell?) => show Calls Tryz.prog 11 #[.agg #[.int .i64 kv, .string vx, .slice akv nkv ckv, .slice a1v n1v c1v]] W (SomeB W) from by
    obtain ⟨rfl, rfl, rfl, rfl, lk, l1, rk, r1⟩ := hw.open
    exact zzFits4_any lk rk h hbv.out.2.2.1 hbv.out.1 l1.1 l1.2)
  have HPR := Lib.hid (fun (W : World) (b : Nat) (h : MLe m W.cell?) (hx : W.heap[b]? = some (.cells #[.int .i64 kd, .string nm, .string tx, .slice ak nk ck, .slice a1 n1 c1, .slice a2 n2 c2] 25 (0, 0))) => show Calls Tryz.prog 12 #[.slice (some ⟨b, 0, none⟩) 1 1] W (PrpQ t W) from proper1 hb hv h hx)
  have HPV := Lib.hid (fun (W : World) (m' : Mem) (kd' tx' ak' nk' ck' a1' n1' c1') (h1 : MV m' (vlCells kd' tx' ak' nk' ck' a1' n1' c1') (valOf v)) (h2 : MLe m' W.cell?) => show Calls Tryz.prog 13 #[.agg #[.int .i64 kd', .string tx', .slice ak' nk' ck', .slice a1' n1' c1']] W (BoP true W) from
    (properValue_any (SizeOf.sizeOf (valOf v) + 1) (valOf v) m' _ _ _ _ _ _ _ _ W (Nat.lt_succ_self _) (bd_val hbv) h1 h2).mono fun e w' h => ⟨by rw [h.1, properV_true hp], h.2⟩)
  have HIV := Lib.hid hp
  have HINP := Lib.hid hin
  have HM := Lib.hid hm
  have HV := Lib.hid hv
  have HW := Lib.hid hw
  have HBI := Lib.hid hb
  have HBV := Lib.hid hbv
  clear hm hv hw hb hbv hp hin
  go_enter Tryz.func9, Tryz.ntmps9
  go_wp2_with (first
    | (go_at_call 10; refine (HF1.out _ (mle_alloc (mle_alloc HM.out _) _)).mono ?_; rintro e w1 ⟨b, rfl, hg⟩; have HX1 := Lib.hid (bl_heap hg.below (al_old (al_new rfl))); have HY1 := Lib.hid (show w1.heap[w.heap.size + 1]? = some (.cells #[.int .i64 kv, .string vx, .slice akv nkv ckv, .slice a1v n1v c1v] 29 (0, 0)) from bl_heap hg.below (al_new (by simp))); have HB1 := Lib.hid (bl_trans (bl_alloc (bl_alloc (Below.refl _ _) _) _) hg.below); obtain ⟨x0, x1, x2, x3, x4, x5⟩ := cells6 HX1.out; obtain ⟨y0, y1, y2, y3⟩ := cells4 HY1.out; clear hg; cases b)
    | (go_at_call 11; refine (HF4.out _ (HM.out.trans (mle_below HB1.out))).mono ?_; rintro e w2 ⟨b, rfl, hg⟩; have HX2 := Lib.hid (bl_heap hg.below HX1.out); have HY2 := Lib.hid (bl_heap hg.below HY1.out); have HB2 := Lib.hid (bl_trans HB1.out hg.below); clear hg x0 x1 x2 x3 x4 x5 y0 y1 y2 y3; cases b))
  · go_ret
    exact ⟨rfl, HB1.out⟩
  · go_ret
    exact ⟨rfl, HB2.out⟩
  have HM2 := Lib.hid (HM.out.trans (mle_below HB2.out))
  refine start_ (n := 18) (S := fun w' => w'.cell? ⟨w.heap.size, 0, none⟩ = some (.int .i64 kd) ∧ w'.cell? ⟨w.heap.size, 1, none⟩ = some (.string nm) ∧ w'.cell? ⟨w.heap.size, 2, none⟩ = some (.string tx) ∧ w'.cell? ⟨w.heap.size, 3, none⟩ = some (.slice ak nk ck) ∧ w'.cell? ⟨w.heap.size, 4, none⟩ = some (.slice a1 n1 c1) ∧ w'.cell? ⟨w.heap.size, 5, none⟩ = some (.slice a2 n2 c2) ∧ w'.cell? ⟨w.heap.size + 1, 0, none⟩ = some (.int .i64 kv) ∧ w'.cell? ⟨w.heap.size + 1, 1, none⟩ = some (.string vx) ∧ w'.cell? ⟨w.heap.size + 1, 2, none⟩ = some (.slice akv nkv ckv) ∧ w'.cell? ⟨w.heap.size + 1, 3, none⟩ = some (.slice a1v n1v c1v)) (ds := []) #[false, false, false, false, false, false, false, false, false, false, false, false, false, false, false, false, false, false] (by kernel_rfl) rfl rfl ⟨cell_blk HX2.out 0 rfl, cell_blk HX2.out 1 rfl, cell_blk HX2.out 2 rfl, cell_blk HX2.out 3 rfl, cell_blk HX2.out 4 rfl, cell_blk HX2.out 5 rfl, cell_blk HY2.out 0 rfl, cell_blk HY2.out 1 rfl, cell_blk HY2.out 2 rfl, cell_blk HY2.out 3 rfl⟩ (fun hHeld => ?_)
  refine take_ (i := 0) (N := some 17) (v := ?_) (a' := ?_) #[true, false, false, false, false, false, false, false, false, false, false, false, false, false, false, false, false, false] rfl rfl (by kernel_rfl) (fun _ _ _ h => h) (Or.inl ⟨by rfl, ?_⟩) hHeld ?_ ?_
  rotate_left
  · rintro w' ⟨s0, s1, s2, s3, s4, s5, s6, s7, s8, s9⟩
    go_simp
    with_reducible rfl
  rotate_left
  · simp only [Act.put, List.setIfInBounds_toArray, List.set_cons_zero, List.set_cons_succ, i64_w, i32_w]
    rfl
  refine one_ (i := 1) (N := some 18) #[true, true, false, false, false, false, false, false, false, false, false, false, false, false, false, false, false, false] rfl rfl (by kernel_rfl) (by decide) (fun K hK => ?_)
  refine value_ (w1 := ?_) (v := ?_) (by rfl) rfl ?_ ?_
  rotate_left 2
  · go_simp
    constructor
    · rfl
    · rfl
  refine hK.out _ _ ⟨cell_blk (al_old HX2.out) 0 rfl, cell_blk (al_old HX2.out) 1 rfl, cell_blk (al_old HX2.out) 2 rfl, cell_blk (al_old HX2.out) 3 rfl, cell_blk (al_old HX2.out) 4 rfl, cell_blk (al_old HX2.out) 5 rfl, cell_blk (al_old HY2.out) 0 rfl, cell_blk (al_old HY2.out) 1 rfl, cell_blk (al_old HY2.out) 2 rfl, cell_blk (al_old HY2.out) 3 rfl⟩ (fun hHeld => ?_)
  clear hK K
  refine norm_ (a' := ?_) ?_ ?_
  rotate_left
  · show Act.put _ (some 18) _ = _
    simp only [Act.put, List.setIfInBounds_toArray, List.set_cons_zero, List.set_cons_succ, i64_w, i32_w]
    rfl
  refine one_ (i := 2) (N := some 19) #[true, true, true, false, false, false, false, false, false, false, false, false, false, false, false, false, false, false] rfl rfl (by kernel_rfl) (by decide) (fun K hK => ?_)
  refine goes_ Tryz.func12 (by kernel_rfl) rfl #[.slice (some ⟨w2.heap.size, 0, none⟩) 1 1] (by rfl) rfl rfl (by simp only [List.map_toArray, List.map_cons, List.map_nil]; rfl) ?_
  with_reducible refine (HPR.out _ w2.heap.size (mle_drew (mle_alloc HM2.out _)) (al_new rfl)).mono ?_
  rintro e w3 ⟨b, rfl, hp3, hb3⟩
  refine ⟨_, rfl, ?_⟩
  have hX3 := bl_heap hb3 (al_old HX2.out)
  have hY3 := bl_heap hb3 (al_old HY2.out)
  have hB3 := bl_trans (bl_alloc HB2.out _).drew hb3
  cases b
  · skip
    refine hK.out _ _ ⟨cell_blk hX3 0 rfl, cell_blk hX3 1 rfl, cell_blk hX3 2 rfl, cell_blk hX3 3 rfl, cell_blk hX3 4 rfl, cell_blk hX3 5 rfl, cell_blk hY3 0 rfl, cell_blk hY3 1 rfl, cell_blk hY3 2 rfl, cell_blk hY3 3 rfl⟩ (fun hHeld => ?_)
    clear hK K
    refine norm_ (a' := ?_) ?_ ?_
    rotate_left
    · show Act.put _ (some 19) _ = _
      simp only [Act.put, List.setIfInBounds_toArray, List.set_cons_zero, List.set_cons_succ, i64_w, i32_w]
      rfl
    refine pure_ (i := 3) (N := some 20) (v := ?_) (a' := ?_) #[true, true, true, true, false, false, false, false, false, false, false, false, false, false, false, false, false, false] rfl rfl (by kernel_rfl) (fun _ _ _ h => h) (Or.inl ⟨by rfl, ?_⟩) ?_ ?_
    rotate_left
    · intro w'
      go_simp
      with_reducible rfl
    rotate_left
    · simp only [Act.put, List.setIfInBounds_toArray, List.set_cons_zero, List.set_cons_succ, i64_w, i32_w]
      rfl
    refine pure_ (i := 4) (N := some 21) (v := ?_) (a' := ?_) #[true, true, true, true, true, false, false, false, false, false, false, false, false, false, false, false, false, false] rfl rfl (by kernel_rfl) (fun _ _ _ h => h) (Or.inl ⟨by rfl, ?_⟩) ?_ ?_
    rotate_left
    · intro w'
      go_simp
      with_reducible rfl
    rotate_left
    · simp only [Act.put, List.setIfInBounds_toArray, List.set_cons_zero, List.set_cons_succ, i64_w, i32_w]
      rfl
    refine pure_ (i := 5) (N := some 22) (v := undef) (a' := ?_) #[true, true, true, true, true, true, false, false, false, false, false, false, false, false, false, false, false, false] rfl rfl (by kernel_rfl) (fun _ _ _ h => h) (Or.inr ⟨by rfl, rfl⟩) ?_ ?_
    rotate_left
    · simp only [Act.put, List.setIfInBounds_toArray, List.set_cons_zero, List.set_cons_succ, i64_w, i32_w]
      rfl
    refine pure_ (i := 6) (N := some 23) (v := undef) (a' := ?_) #[true, true, true, true, true, true, true, false, false, false, false, false, false, false, false, false, false, false] rfl rfl (by kernel_rfl) (fun _ _ _ h => h) (Or.inr ⟨by rfl, rfl⟩) ?_ ?_
    rotate_left
    · simp only [Act.put, List.setIfInBounds_toArray, List.set_cons_zero, List.set_cons_succ, i64_w, i32_w]
      rfl
    refine pure_ (i := 7) (N := some 24) (v := undef) (a' := ?_) #[true, true, true, true, true, true, true, true, false, false, false, false, false, false, false, false, false, false] rfl rfl (by kernel_rfl) (fun _ _ _ h => h) (Or.inr ⟨by rfl, rfl⟩) ?_ ?_
    rotate_left
    · simp only [Act.put, List.setIfInBounds_toArray, List.set_cons_zero, List.set_cons_succ, i64_w, i32_w]
      rfl
    refine pure_ (i := 8) (N := some 25) (v := undef) (a' := ?_) #[true, true, true, true, true, true, true, true, true, false, false, false, false, false, false, false, false, false] rfl rfl (by kernel_rfl) (fun _ _ _ h => h) (Or.inr ⟨by rfl, rfl⟩) ?_ ?_
    rotate_left
    · simp only [Act.put, List.setIfInBounds_toArray, List.set_cons_zero, List.set_cons_succ, i64_w, i32_w]
      rfl
    refine pure_ (i := 9) (N := some 26) (v := ?_) (a' := ?_) #[true, true, true, true, true, true, true, true, true, true, false, false, false, false, false, false, false, false] rfl rfl (by kernel_rfl) (fun _ _ _ h => h) (Or.inl ⟨by rfl, ?_⟩) ?_ ?_
    rotate_left
    · intro w'
      go_simp
      with_reducible rfl
    rotate_left
    · simp only [Act.put, List.setIfInBounds_toArray, List.set_cons_zero, List.set_cons_succ, i64_w, i32_w]
      rfl
    refine pure_ (i := 10) (N := some 27) (v := ?_) (a' := ?_) #[true, true, true, true, true, true, true, true, true, true, true, false, false, false, false, false, false, false] rfl rfl (by kernel_rfl) (fun _ _ _ h => h) (Or.inl ⟨by rfl, ?_⟩) ?_ ?_
    rotate_left
    · intro w'
      go_simp
      with_reducible rfl
    rotate_left
    · simp only [Act.put, List.setIfInBounds_toArray, List.set_cons_zero, List.set_cons_succ, i64_w, i32_w]
      rfl
    refine pure_ (i := 11) (N := some 28) (v := undef) (a' := ?_) #[true, true, true, true, true, true, true, true, true, true, true, true, false, false, false, false, false, false] rfl rfl (by kernel_rfl) (fun _ _ _ h => h) (Or.inr ⟨by rfl, rfl⟩) ?_ ?_
    rotate_left
    · simp only [Act.put, List.setIfInBounds_toArray, List.set_cons_zero, List.set_cons_succ, i64_w, i32_w]
      rfl
    refine pure_ (i := 12) (N := some 29) (v := undef) (a' := ?_) #[true, true, true, true, true, true, true, true, true, true, true, true, true, false, false, false, false, false] rfl rfl (by kernel_rfl) (fun _ _ _ h => h) (Or.inr ⟨by rfl, rfl⟩) ?_ ?_
    rotate_left
    · simp only [Act.put, List.setIfInBounds_toArray, List.set_cons_zero, List.set_cons_succ, i64_w, i32_w]
      rfl
    refine pure_ (i := 13) (N := some 30) (v := undef) (a' := ?_) #[true, true, true, true, true, true, true, true, true, true, true, true, true, true, false, false, false, false] rfl rfl (by kernel_rfl) (fun _ _ _ h => h) (Or.inr ⟨by rfl, rfl⟩) ?_ ?_
    rotate_left
    · simp only [Act.put, List.setIfInBounds_toArray, List.set_cons_zero, List.set_cons_succ, i64_w, i32_w]
      rfl
    refine pure_ (i := 14) (N := some 31) (v := undef) (a' := ?_) #[true, true, true, true, true, true, true, true, true, true, true, true, true, true, true, false, false, false] rfl rfl (by kernel_rfl) (fun _ _ _ h => h) (Or.inr ⟨by rfl, rfl⟩) ?_ ?_
    rotate_left
    · simp only [Act.put, List.setIfInBounds_toArray, List.set_cons_zero, List.set_cons_succ, i64_w, i32_w]
      rfl
    refine pure_ (i := 15) (N := some 32) (v := undef) (a' := ?_) #[true, true, true, true, true, true, true, true, true, true, true, true, true, true, true, true, false, false] rfl rfl (by kernel_rfl) (fun _ _ _ h => h) (Or.inr ⟨by rfl, rfl⟩) ?_ ?_
    rotate_left
    · simp only [Act.put, List.setIfInBounds_toArray, List.set_cons_zero, List.set_cons_succ, i64_w, i32_w]
      rfl
    refine pure_ (i := 16) (N := some 33) (v := undef) (a' := ?_) #[true, true, true, true, true, true, true, true, true, true, true, true, true, true, true, true, true, false] rfl rfl (by kernel_rfl) (fun _ _ _ h => h) (Or.inr ⟨by rfl, rfl⟩) ?_ ?_
    rotate_left
    · simp only [Act.put, List.setIfInBounds_toArray, List.set_cons_zero, List.set_cons_succ, i64_w, i32_w]
      rfl
    refine pure_ (i := 17) (N := some 34) (v := ?_) (a' := ?_) #[true, true, true, true, true, true, true, true, true, true, true, true, true, true, true, true, true, true] rfl rfl (by kernel_rfl) (fun _ _ _ h => h) (Or.inl ⟨by rfl, ?_⟩) ?_ ?_
    rotate_left
    · intro w'
      go_simp
      with_reducible rfl
    rotate_left
    · simp only [Act.put, List.setIfInBounds_toArray, List.set_cons_zero, List.set_cons_succ, i64_w, i32_w]
      rfl
    refine done_ (by kernel_rfl) ?_
    have HXE := Lib.hid hX3
    have HYE := Lib.hid hY3
    have HBE := Lib.hid hB3
    clear hHeld hX3 hY3 hB3 hp3 hb3
    go_wp2_with (first | (go_at_call 17; refine (works_any _).mono ?_; rintro e wz ⟨rfl, hgz⟩; have HBZ := Lib.hid (bl_trans HBE.out hgz.below); clear hgz))
    go_ret
    exact ⟨rfl, HBZ.out⟩
  · skip
    obtain ⟨hw5, hpt⟩ := hp3 rfl
    have HPT := Lib.hid hpt
    have HW5 := Lib.hid hw5
    have HIN := Lib.hid (fun (W : World) (kv' : Int) (tx' : ByteArray) (akv' : Option Addr) (nkv' ckv' : Nat) (a1v' : Option Addr) (n1v' c1v' : Nat) (kd' : Int) (ak' : Option Addr) (nk' ck' : Nat) (a1' : Option Addr) (n1' c1' : Nat) (a2' : Option Addr) (n2' c2' : Nat) (h3 : MV W.cell? (vlCells kv' tx' akv' nkv' ckv' a1v' n1v' c1v') (valOf v)) (h4 : MST W.cell? (stCells kd' ak' nk' ck' a1' n1' c1' a2' n2' c2') (kindOf t)) => show Calls Tryz.prog 15 #[.agg #[.int .i64 kv', .string tx', .slice akv' nkv' ckv', .slice a1v' n1v' c1v'], .agg #[.int .i64 kd', .slice ak' nk' ck', .slice a1' n1' c1', .slice a2' n2' c2']] W (BoP true W) from
      (in_any (kindOf t) (valOf v) W.cell? _ _ _ _ _ _ _ _ _ _ _ _ _ _ _ _ _ _ W (by rw [kind_of hw5]; exact (pt_bt hpt).wt) (wv_of _ HIV.out) h3 h4 (MLe.refl _)).mono fun e w' h => ⟨by rw [h.1, inT_true HINP.out], h.2⟩)
    clear hw5 hpt
    refine hK.out _ _ ⟨cell_blk hX3 0 rfl, cell_blk hX3 1 rfl, cell_blk hX3 2 rfl, cell_blk hX3 3 rfl, cell_blk hX3 4 rfl, cell_blk hX3 5 rfl, cell_blk hY3 0 rfl, cell_blk hY3 1 rfl, cell_blk hY3 2 rfl, cell_blk hY3 3 rfl⟩ (fun hHeld => ?_)
    clear hK K
    refine norm_ (a' := ?_) ?_ ?_
    rotate_left
    · show Act.put _ (some 19) _ = _
      simp only [Act.put, List.setIfInBounds_toArray, List.set_cons_zero, List.set_cons_succ, i64_w, i32_w]
      rfl
    refine pure_ (i := 3) (N := some 20) (v := ?_) (a' := ?_) #[true, true, true, true, false, false, false, false, false, false, false, false, false, false, false, false, false, false] rfl rfl (by kernel_rfl) (fun _ _ _ h => h) (Or.inl ⟨by rfl, ?_⟩) ?_ ?_
    rotate_left
    · intro w'
      go_simp
      with_reducible rfl
    rotate_left
    · simp only [Act.put, List.setIfInBounds_toArray, List.set_cons_zero, List.set_cons_succ, i64_w, i32_w]
      rfl
    refine pure_ (i := 4) (N := some 21) (v := ?_) (a' := ?_) #[true, true, true, true, true, false, false, false, false, false, false, false, false, false, false, false, false, false] rfl rfl (by kernel_rfl) (fun _ _ _ h => h) (Or.inl ⟨by rfl, ?_⟩) ?_ ?_
    rotate_left
    · intro w'
      go_simp
      with_reducible rfl
    rotate_left
    · simp only [Act.put, List.setIfInBounds_toArray, List.set_cons_zero, List.set_cons_succ, i64_w, i32_w]
      rfl
    refine take_ (i := 5) (N := some 22) (v := ?_) (a' := ?_) #[true, true, true, true, true, true, false, false, false, false, false, false, false, false, false, false, false, false] rfl rfl (by kernel_rfl) (fun _ _ _ h => h) (Or.inl ⟨by rfl, ?_⟩) hHeld ?_ ?_
    rotate_left
    · rintro w' ⟨s0, s1, s2, s3, s4, s5, s6, s7, s8, s9⟩
      go_simp
      with_reducible rfl
    rotate_left
    · simp only [Act.put, List.setIfInBounds_toArray, List.set_cons_zero, List.set_cons_succ, i64_w, i32_w]
      rfl
    refine one_ (i := 6) (N := some 23) #[true, true, true, true, true, true, true, false, false, false, false, false, false, false, false, false, false, false] rfl rfl (by kernel_rfl) (by decide) (fun K hK => ?_)
    refine goes_ Tryz.func14 (by kernel_rfl) rfl #[.agg #[.int .i64 kv, .string vx, .slice akv nkv ckv, .slice a1v n1v c1v]] (by rfl) rfl rfl (by simp only [List.map_toArray, List.map_cons, List.map_nil]; rfl) ?_
    with_reducible refine (value_any v m _ _ _ _ _ _ _ _ _ HBV.out HW.out (HM.out.trans (mle_below hB3))).mono ?_
    rintro e w4 ⟨kd4, tx4, ak4, nk4, ck4, a14, n14, c14, rfl, hmv4, hb4⟩
    refine ⟨_, rfl, ?_⟩
    have hX4 := bl_heap hb4 hX3
    have hY4 := bl_heap hb4 hY3
    have hB4 := bl_trans hB3 hb4
    refine hK.out _ _ ⟨cell_blk hX4 0 rfl, cell_blk hX4 1 rfl, cell_blk hX4 2 rfl, cell_blk hX4 3 rfl, cell_blk hX4 4 rfl, cell_blk hX4 5 rfl, cell_blk hY4 0 rfl, cell_blk hY4 1 rfl, cell_blk hY4 2 rfl, cell_blk hY4 3 rfl⟩ (fun hHeld => ?_)
    clear hK K
    refine norm_ (a' := ?_) ?_ ?_
    rotate_left
    · show Act.put _ (some 23) _ = _
      simp only [Act.put, List.setIfInBounds_toArray, List.set_cons_zero, List.set_cons_succ, i64_w, i32_w]
      rfl
    refine one_ (i := 7) (N := some 24) #[true, true, true, true, true, true, true, true, false, false, false, false, false, false, false, false, false, false] rfl rfl (by kernel_rfl) (by decide) (fun K hK => ?_)
    refine goes_ Tryz.func13 (by kernel_rfl) rfl #[.agg #[.int .i64 kd4, .string tx4, .slice ak4 nk4 ck4, .slice a14 n14 c14]] (by rfl) rfl rfl (by simp only [List.map_toArray, List.map_cons, List.map_nil]; rfl) ?_
    with_reducible refine (HPV.out _ _ _ _ _ _ _ _ _ _ hmv4 (fr_le (HM.out.trans (mle_below hB4)))).mono ?_
    rintro e w5 ⟨rfl, hg5⟩
    refine ⟨_, rfl, ?_⟩
    have hX5 := bl_heap hg5.below hX4
    have hY5 := bl_heap hg5.below hY4
    have hB5 := bl_trans hB4 hg5.below
    refine hK.out _ _ ⟨cell_blk hX5 0 rfl, cell_blk hX5 1 rfl, cell_blk hX5 2 rfl, cell_blk hX5 3 rfl, cell_blk hX5 4 rfl, cell_blk hX5 5 rfl, cell_blk hY5 0 rfl, cell_blk hY5 1 rfl, cell_blk hY5 2 rfl, cell_blk hY5 3 rfl⟩ (fun hHeld => ?_)
    clear hK K
    refine norm_ (a' := ?_) ?_ ?_
    rotate_left
    · show Act.put _ (some 24) _ = _
      simp only [Act.put, List.setIfInBounds_toArray, List.set_cons_zero, List.set_cons_succ, i64_w, i32_w]
      rfl
    refine pure_ (i := 8) (N := some 25) (v := ?_) (a' := ?_) #[true, true, true, true, true, true, true, true, true, false, false, false, false, false, false, false, false, false] rfl rfl (by kernel_rfl) (fun _ _ _ h => h) (Or.inl ⟨by rfl, ?_⟩) ?_ ?_
    rotate_left
    · intro w'
      go_simp
      with_reducible rfl
    rotate_left
    · simp only [Act.put, List.setIfInBounds_toArray, List.set_cons_zero, List.set_cons_succ, i64_w, i32_w]
      rfl
    refine pure_ (i := 9) (N := some 26) (v := ?_) (a' := ?_) #[true, true, true, true, true, true, true, true, true, true, false, false, false, false, false, false, false, false] rfl rfl (by kernel_rfl) (fun _ _ _ h => h) (Or.inl ⟨by rfl, ?_⟩) ?_ ?_
    rotate_left
    · intro w'
      go_simp
      with_reducible rfl
    rotate_left
    · simp only [Act.put, List.setIfInBounds_toArray, List.set_cons_zero, List.set_cons_succ, i64_w, i32_w]
      rfl
    refine pure_ (i := 10) (N := some 27) (v := ?_) (a' := ?_) #[true, true, true, true, true, true, true, true, true, true, true, false, false, false, false, false, false, false] rfl rfl (by kernel_rfl) (fun _ _ _ h => h) (Or.inl ⟨by rfl, ?_⟩) ?_ ?_
    rotate_left
    · intro w'
      go_simp
      with_reducible rfl
    rotate_left
    · simp only [Act.put, List.setIfInBounds_toArray, List.set_cons_zero, List.set_cons_succ, i64_w, i32_w]
      rfl
    refine take_ (i := 11) (N := some 28) (v := ?_) (a' := ?_) #[true, true, true, true, true, true, true, true, true, true, true, true, false, false, false, false, false, false] rfl rfl (by kernel_rfl) (fun _ _ _ h => h) (Or.inl ⟨by rfl, ?_⟩) hHeld ?_ ?_
    rotate_left
    · rintro w' ⟨s0, s1, s2, s3, s4, s5, s6, s7, s8, s9⟩
      go_simp
      with_reducible rfl
    rotate_left
    · simp only [Act.put, List.setIfInBounds_toArray, List.set_cons_zero, List.set_cons_succ, i64_w, i32_w]
      rfl
    refine take_ (i := 13) (N := some 30) (v := ?_) (a' := ?_) #[true, true, true, true, true, true, true, true, true, true, true, true, false, true, false, false, false, false] rfl rfl (by kernel_rfl) (fun _ _ _ h => h) (Or.inl ⟨by rfl, ?_⟩) hHeld ?_ ?_
    rotate_left
    · rintro w' ⟨s0, s1, s2, s3, s4, s5, s6, s7, s8, s9⟩
      go_simp
      with_reducible rfl
    rotate_left
    · simp only [Act.put, List.setIfInBounds_toArray, List.set_cons_zero, List.set_cons_succ, i64_w, i32_w]
      rfl
    refine one_ (i := 12) (N := some 29) #[true, true, true, true, true, true, true, true, true, true, true, true, true, true, false, false, false, false] rfl rfl (by kernel_rfl) (by decide) (fun K hK => ?_)
    refine goes_ Tryz.func14 (by kernel_rfl) rfl #[.agg #[.int .i64 kv, .string vx, .slice akv nkv ckv, .slice a1v n1v c1v]] (by rfl) rfl rfl (by simp only [List.map_toArray, List.map_cons, List.map_nil]; rfl) ?_
    with_reducible refine (value_any v m _ _ _ _ _ _ _ _ _ HBV.out HW.out (HM.out.trans (mle_below hB5))).mono ?_
    rintro e w6 ⟨kd6, tx6, ak6, nk6, ck6, a16, n16, c16, rfl, hmv6, hb6⟩
    refine ⟨_, rfl, ?_⟩
    have hX6 := bl_heap hb6 hX5
    have hY6 := bl_heap hb6 hY5
    have hB6 := bl_trans hB5 hb6
    refine hK.out _ _ ⟨cell_blk hX6 0 rfl, cell_blk hX6 1 rfl, cell_blk hX6 2 rfl, cell_blk hX6 3 rfl, cell_blk hX6 4 rfl, cell_blk hX6 5 rfl, cell_blk hY6 0 rfl, cell_blk hY6 1 rfl, cell_blk hY6 2 rfl, cell_blk hY6 3 rfl⟩ (fun hHeld => ?_)
    clear hK K
    refine norm_ (a' := ?_) ?_ ?_
    rotate_left
    · show Act.put _ (some 29) _ = _
      simp only [Act.put, List.setIfInBounds_toArray, List.set_cons_zero, List.set_cons_succ, i64_w, i32_w]
      rfl
    refine one_ (i := 14) (N := some 31) #[true, true, true, true, true, true, true, true, true, true, true, true, true, true, true, false, false, false] rfl rfl (by kernel_rfl) (by decide) (fun K hK => ?_)
    refine goes_ Tryz.func16 (by kernel_rfl) rfl #[.agg #[.int .i64 kd, .string nm, .string tx, .slice ak nk ck, .slice a1 n1 c1, .slice a2 n2 c2]] (by rfl) rfl rfl (by simp only [List.map_toArray, List.map_cons, List.map_nil]; rfl) ?_
    with_reducible refine (kind_any t m _ _ _ _ _ _ _ _ _ _ _ _ _ HBI.out HV.out (HM.out.trans (mle_below hB6))).mono ?_
    rintro e w7 ⟨kd7, ak7, nk7, ck7, a17, n17, c17, a27, n27, c27, rfl, hmt7, hb7⟩
    refine ⟨_, rfl, ?_⟩
    have hX7 := bl_heap hb7 hX6
    have hY7 := bl_heap hb7 hY6
    have hB7 := bl_trans hB6 hb7
    refine hK.out _ _ ⟨cell_blk hX7 0 rfl, cell_blk hX7 1 rfl, cell_blk hX7 2 rfl, cell_blk hX7 3 rfl, cell_blk hX7 4 rfl, cell_blk hX7 5 rfl, cell_blk hY7 0 rfl, cell_blk hY7 1 rfl, cell_blk hY7 2 rfl, cell_blk hY7 3 rfl⟩ (fun hHeld => ?_)
    clear hK K
    refine norm_ (a' := ?_) ?_ ?_
    rotate_left
    · show Act.put _ (some 31) _ = _
      simp only [Act.put, List.setIfInBounds_toArray, List.set_cons_zero, List.set_cons_succ, i64_w, i32_w]
      rfl
    refine one_ (i := 15) (N := some 32) #[true, true, true, true, true, true, true, true, true, true, true, true, true, true, true, true, false, false] rfl rfl (by kernel_rfl) (by decide) (fun K hK => ?_)
    refine goes_ Tryz.func15 (by kernel_rfl) rfl #[.agg #[.int .i64 kd6, .string tx6, .slice ak6 nk6 ck6, .slice a16 n16 c16], .agg #[.int .i64 kd7, .slice ak7 nk7 ck7, .slice a17 n17 c17, .slice a27 n27 c27]] (by rfl) rfl rfl (by simp only [List.map_toArray, List.map_cons, List.map_nil]; rfl) ?_
    with_reducible refine (HIN.out w7 _ _ _ _ _ _ _ _ _ _ _ _ _ _ _ _ _ _ (hmv6.mono ((fr_le (HM.out.trans (mle_below hB6))).trans (mle_below hb7))) (hmt7.mono (fr_le (HM.out.trans (mle_below hB7))))).mono ?_
    rintro e w8 ⟨rfl, hg8⟩
    refine ⟨_, rfl, ?_⟩
    have hX8 := bl_heap hg8.below hX7
    have hY8 := bl_heap hg8.below hY7
    have hB8 := bl_trans hB7 hg8.below
    refine hK.out _ _ ⟨cell_blk hX8 0 rfl, cell_blk hX8 1 rfl, cell_blk hX8 2 rfl, cell_blk hX8 3 rfl, cell_blk hX8 4 rfl, cell_blk hX8 5 rfl, cell_blk hY8 0 rfl, cell_blk hY8 1 rfl, cell_blk hY8 2 rfl, cell_blk hY8 3 rfl⟩ (fun hHeld => ?_)
    clear hK K
    refine norm_ (a' := ?_) ?_ ?_
    rotate_left
    · show Act.put _ (some 32) _ = _
      simp only [Act.put, List.setIfInBounds_toArray, List.set_cons_zero, List.set_cons_succ, i64_w, i32_w]
      rfl
    refine pure_ (i := 16) (N := some 33) (v := ?_) (a' := ?_) #[true, true, true, true, true, true, true, true, true, true, true, true, true, true, true, true, true, false] rfl rfl (by kernel_rfl) (fun _ _ _ h => h) (Or.inl ⟨by rfl, ?_⟩) ?_ ?_
    rotate_left
    · intro w'
      go_simp
      with_reducible rfl
    rotate_left
    · simp only [Act.put, List.setIfInBounds_toArray, List.set_cons_zero, List.set_cons_succ, i64_w, i32_w]
      rfl
    refine pure_ (i := 17) (N := some 34) (v := ?_) (a' := ?_) #[true, true, true, true, true, true, true, true, true, true, true, true, true, true, true, true, true, true] rfl rfl (by kernel_rfl) (fun _ _ _ h => h) (Or.inl ⟨by rfl, ?_⟩) ?_ ?_
    rotate_left
    · intro w'
      go_simp
      with_reducible rfl
    rotate_left
    · simp only [Act.put, List.setIfInBounds_toArray, List.set_cons_zero, List.set_cons_succ, i64_w, i32_w]
      rfl
    refine done_ (by kernel_rfl) ?_
    have HXE := Lib.hid hX8
    have HYE := Lib.hid hY8
    have HBE := Lib.hid hB8
    clear hHeld hX3 hY3 hB3 hp3 hb3 hX4 hY4 hB4 hb4 hmv4 hX5 hY5 hB5 hg5 hX6 hY6 hB6 hb6 hmv6 hX7 hY7 hB7 hb7 hmt7 hX8 hY8 hB8 hg8
    obtain ⟨ev, hwv, hpv⟩ := val_proper HIV.out
    have EV := Lib.hid ev
    have HWV := Lib.hid hwv
    have HPV2 := Lib.hid hpv
    have HIN2 := Lib.hid (show InP (toS t) v from by have h := HINP.out; rw [kind_of HW5.out, ev] at h; exact h)
    clear ev hwv hpv
    obtain ⟨y0, y1, y2, y3⟩ := cells4 HYE.out
    go_wp2_with (first
      | (go_at_call 14; refine (value_any v m _ _ _ _ _ _ _ _ _ HBV.out HW.out (HM.out.trans (mle_below HBE.out))).mono ?_; rintro e w9 ⟨kd9, tx9, ak9, nk9, ck9, a19, n19, c19, rfl, hmv9, hb9⟩; have HX9 := Lib.hid (bl_heap hb9 HXE.out); have HY9 := Lib.hid (bl_heap hb9 HYE.out); have HB9 := Lib.hid (bl_trans HBE.out hb9); have HMV9 := Lib.hid (show MV w9.cell? (vlCells kd9 tx9 ak9 nk9 ck9 a19 n19 c19) v from by have h := hmv9.mono (fr_le (HM.out.trans (mle_below HB9.out))); rw [EV.out] at h; exact h); clear hmv9 hb9)
      | (go_at_call 18; refine (entries_any HMV9.out HPV2.out HWV.out (MLe.refl _)).mono ?_; rintro e w10 ⟨eak, eck, eav, ecv, kcs, vcs, rfl, lka, lkb, hkl, hvl, hkc, hvc, ra, rb, hb10⟩; have HB910 := Lib.hid hb10; have HX10 := Lib.hid (bl_heap hb10 HX9.out); have HB10 := Lib.hid (bl_trans HB9.out hb10); have HKL := Lib.hid hkl; have HVL := Lib.hid hvl; have HKC := Lib.hid hkc; have HVC := Lib.hid hvc; have HRA := Lib.hid (show Row w10.cell? 4 eak v.kids.length (fun i => kcs.getD i []) from Row.mono ra (fr_le (mle_below hb10))); have HRB := Lib.hid (show Row w10.cell? 4 eav v.kids.length (fun i => vcs.getD i []) from Row.mono rb (fr_le (mle_below hb10))); obtain ⟨lka1, lka2⟩ := lka; obtain ⟨lkb1, lkb2⟩ := lkb; clear hkl hvl hkc hvc ra rb hb10 y0 y1 y2 y3))
    go_loopw [44] (fun i wr => ∃ k : Nat, k ≤ v.kids.length ∧ i = .int .i64 k ∧ Hid (Below w10.heap.size w10 wr)) (fun i _ => v.kids.length - (intOf i).toNat)
    case atStart => exact ⟨0, Nat.zero_le _, rfl, Below.refl _ _⟩
    case round =>
      obtain ⟨k, hk, rfl, hI⟩ := hrel
      have HBR := Lib.hid (bl_trans HB10.out hI.out)
      by_cases hlt : k < v.kids.length
      · have HXR := Lib.hid (bl_heap hI.out HX10.out)
        have hkl : k < kcs.length := by have := HKL.out; omega
        have hvl : k < vcs.length := by have := HVL.out; omega
        obtain ⟨kd0, tx0, hc, hek, hmk, hwk⟩ := key_entry HPV2.out hlt HWV.out (HKC.out k hkl)
        have HKS := Lib.hid (keys_entry HPT.out HW5.out HPV2.out HIN2.out hek)
        have HVS := Lib.hid (vals_entry HPT.out HW5.out HPV2.out HIN2.out hlt)
        have HMK := Lib.hid hmk
        have HWK := Lib.hid hwk
        obtain ⟨kdv, txv, akw, nkw, ckw, a1w, n1w, c1w, hcv⟩ := (HVC.out k hvl hlt).shape
        obtain ⟨kb, koff, rfl, q0, q1, q2, q3⟩ := kc_at HRA.out hlt hkl hc
        obtain ⟨vb, voff, rfl, r0, r1, r2, r3⟩ := kc_at HRB.out hlt hvl hcv
        have HMR := Lib.hid (show MLe w10.cell? wr.cell? from mle_below hI.out)
        have HMV := Lib.hid (show MV w9.cell? (vlCells kdv txv akw nkw ckw a1w n1w c1w) v.kids[k] from by have h := HVC.out k hvl hlt; rw [hcv] at h; exact h)
        have HPU := Lib.hid (wv_of _ (HPV2.out.kid hlt))
        have R0 := Lib.hid (HMR.out _ _ r0)
        have R1 := Lib.hid (HMR.out _ _ r1)
        have R2 := Lib.hid (HMR.out _ _ r2)
        have R3 := Lib.hid (HMR.out _ _ r3)
        replace q0 := HMR.out _ _ q0
        replace q1 := HMR.out _ _ q1
        replace q2 := HMR.out _ _ q2
        replace q3 := HMR.out _ _ q3
        clear hc hek hmk hwk hcv r0 r1 r2 r3
        go_wp2
        clear q0 q1 q2 q3
        refine start_ (n := 17) (S := fun w' => w'.cell? ⟨w.heap.size, 0, none⟩ = some (.int .i64 kd) ∧ w'.cell? ⟨w.heap.size, 1, none⟩ = some (.string nm) ∧ w'.cell? ⟨w.heap.size, 2, none⟩ = some (.string tx) ∧ w'.cell? ⟨w.heap.size, 3, none⟩ = some (.slice ak nk ck) ∧ w'.cell? ⟨w.heap.size, 4, none⟩ = some (.slice a1 n1 c1) ∧ w'.cell? ⟨w.heap.size, 5, none⟩ = some (.slice a2 n2 c2) ∧ w'.cell? ⟨wr.heap.size, 0, none⟩ = some (.int .i64 kd0) ∧ w'.cell? ⟨wr.heap.size, 1, none⟩ = some (.string tx0) ∧ w'.cell? ⟨wr.heap.size, 2, none⟩ = some (.slice none 0 0) ∧ w'.cell? ⟨wr.heap.size, 3, none⟩ = some (.slice none 0 0) ∧ w'.cell? ⟨vb, voff + k * 4, none⟩ = some (.int .i64 kdv) ∧ w'.cell? ⟨vb, voff + k * 4 + 1, none⟩ = some (.string txv) ∧ w'.cell? ⟨vb, voff + k * 4 + 2, none⟩ = some (.slice akw nkw ckw) ∧ w'.cell? ⟨vb, voff + k * 4 + 3, none⟩ = some (.slice a1w n1w c1w)) (ds := []) #[false, false, false, false, false, false, false, false, false, false, false, false, false, false, false, false, false] (by kernel_rfl) rfl rfl ⟨cell_blk (al_old HXR.out) 0 rfl, cell_blk (al_old HXR.out) 1 rfl, cell_blk (al_old HXR.out) 2 rfl, cell_blk (al_old HXR.out) 3 rfl, cell_blk (al_old HXR.out) 4 rfl, cell_blk (al_old HXR.out) 5 rfl, cell_blk (al_new rfl) 0 rfl, cell_blk (al_new rfl) 1 rfl, cell_blk (al_new rfl) 2 rfl, cell_blk (al_new rfl) 3 rfl, ((Gr.refl wr).alloc _).cell R0.out, ((Gr.refl wr).alloc _).cell R1.out, ((Gr.refl wr).alloc _).cell R2.out, ((Gr.refl wr).alloc _).cell R3.out⟩ (fun hHeld => ?_)
        refine take_ (i := 0) (N := some 49) (v := ?_) (a' := ?_) #[true, false, false, false, false, false, false, false, false, false, false, false, false, false, false, false, false] rfl rfl (by kernel_rfl) (fun _ _ _ h => h) (Or.inl ⟨by rfl, ?_⟩) hHeld ?_ ?_
        rotate_left
        · rintro w' ⟨s0, s1, s2, s3, s4, s5, s6, s7, s8, s9, s10, s11, s12, s13⟩
          go_simp
          with_reducible rfl
        rotate_left
        · simp only [Act.put, List.setIfInBounds_toArray, List.set_cons_zero, List.set_cons_succ, i64_w, i32_w]
          rfl
        refine take_ (i := 1) (N := some 50) (v := ?_) (a' := ?_) #[true, true, false, false, false, false, false, false, false, false, false, false, false, false, false, false, false] rfl rfl (by kernel_rfl) (fun _ _ _ h => h) (Or.inl ⟨by rfl, ?_⟩) hHeld ?_ ?_
        rotate_left
        · rintro w' ⟨s0, s1, s2, s3, s4, s5, s6, s7, s8, s9, s10, s11, s12, s13⟩
          go_simp
          with_reducible rfl
        rotate_left
        · simp only [Act.put, List.setIfInBounds_toArray, List.set_cons_zero, List.set_cons_succ, i64_w, i32_w]
          rfl
        refine one_ (i := 2) (N := some 51) #[true, true, true, false, false, false, false, false, false, false, false, false, false, false, false, false, false] rfl rfl (by kernel_rfl) (by decide) (fun K hK => ?_)
        refine goes_ Tryz.func31 (by kernel_rfl) rfl #[.agg #[.int .i64 kd, .string nm, .string tx, .slice ak nk ck, .slice a1 n1 c1, .slice a2 n2 c2]] (by rfl) rfl rfl (by simp only [List.map_toArray, List.map_cons, List.map_nil]; rfl) ?_
        with_reducible refine (ikeys_any (P := YesR (.mk kd0 tx0 [] [])) HV.out (pt_bt HPT.out) (Nat.le_trans HW5.out (by decide)) (HM.out.trans (mle_below (bl_alloc HBR.out _).drew)) HKS.out (fun o h => h.w)).mono ?_
        rintro e w14 ⟨o, ho, ak14, nk14, ck14, a114, n114, c114, a214, n214, c214, rfl, hmi14, hb14⟩
        refine ⟨_, rfl, ?_⟩
        have hX14 := bl_heap hb14 (show (wr.alloc (.cells #[.int .i64 kd0, .string tx0, .slice none 0 0, .slice none 0 0] 36)).drew.heap[w.heap.size]? = _ from al_old HXR.out)
        have hK14 := bl_heap hb14 (show (wr.alloc (.cells #[.int .i64 kd0, .string tx0, .slice none 0 0, .slice none 0 0] 36)).drew.heap[wr.heap.size]? = _ from al_new rfl)
        have hA14 := bl_trans (Below.refl (wr.alloc (.cells #[.int .i64 kd0, .string tx0, .slice none 0 0, .slice none 0 0] 36)).heap.size (wr.alloc (.cells #[.int .i64 kd0, .string tx0, .slice none 0 0, .slice none 0 0] 36))).drew hb14
        have hB14 := bl_trans (bl_alloc HBR.out _) hA14
        refine hK.out _ _ ⟨cell_blk hX14 0 rfl, cell_blk hX14 1 rfl, cell_blk hX14 2 rfl, cell_blk hX14 3 rfl, cell_blk hX14 4 rfl, cell_blk hX14 5 rfl, cell_blk hK14 0 rfl, cell_blk hK14 1 rfl, cell_blk hK14 2 rfl, cell_blk hK14 3 rfl, mle_below hA14 _ _ (((Gr.refl wr).alloc _).cell R0.out), mle_below hA14 _ _ (((Gr.refl wr).alloc _).cell R1.out), mle_below hA14 _ _ (((Gr.refl wr).alloc _).cell R2.out), mle_below hA14 _ _ (((Gr.refl wr).alloc _).cell R3.out)⟩ (fun hHeld => ?_)
        clear hK K
        refine norm_ (a' := ?_) ?_ ?_
        rotate_left
        · show Act.put _ (some 51) _ = _
          simp only [Act.put, List.setIfInBounds_toArray, List.set_cons_zero, List.set_cons_succ, i64_w, i32_w]
          rfl
        refine one_ (i := 3) (N := some 52) #[true, true, true, true, false, false, false, false, false, false, false, false, false, false, false, false, false] rfl rfl (by kernel_rfl) (by decide) (fun K hK => ?_)
        refine goes_ Tryz.func20 (by kernel_rfl) rfl #[.agg #[.int .i64 (oI o).kind, .string ⟨#[]⟩, .string ⟨#[]⟩, .slice ak14 nk14 ck14, .slice a114 n114 c114, .slice a214 n214 c214]] (by rfl) rfl rfl (by simp only [List.map_toArray, List.map_cons, List.map_nil]; rfl) ?_
        with_reducible refine (given_any (oI o) _ _ _ _ _ _ _ _ _ _ _ _ _ w14 (yes_bd ho) hmi14 (fr_le (mle_m0 _))).mono ?_
        rintro e w15 ⟨kd15, ak15, nk15, ck15, a115, n115, c115, a215, n215, c215, rfl, hmt15, hb15⟩
        refine ⟨_, rfl, ?_⟩
        have hX15 := bl_heap hb15 hX14
        have hK15 := bl_heap hb15 hK14
        have hA15 := bl_trans hA14 hb15
        have hB15 := bl_trans hB14 hb15
        refine hK.out _ _ ⟨cell_blk hX15 0 rfl, cell_blk hX15 1 rfl, cell_blk hX15 2 rfl, cell_blk hX15 3 rfl, cell_blk hX15 4 rfl, cell_blk hX15 5 rfl, cell_blk hK15 0 rfl, cell_blk hK15 1 rfl, cell_blk hK15 2 rfl, cell_blk hK15 3 rfl, mle_below hA15 _ _ (((Gr.refl wr).alloc _).cell R0.out), mle_below hA15 _ _ (((Gr.refl wr).alloc _).cell R1.out), mle_below hA15 _ _ (((Gr.refl wr).alloc _).cell R2.out), mle_below hA15 _ _ (((Gr.refl wr).alloc _).cell R3.out)⟩ (fun hHeld => ?_)
        clear hK K
        refine norm_ (a' := ?_) ?_ ?_
        rotate_left
        · show Act.put _ (some 52) _ = _
          simp only [Act.put, List.setIfInBounds_toArray, List.set_cons_zero, List.set_cons_succ, i64_w, i32_w]
          rfl
        refine one_ (i := 4) (N := some 53) #[true, true, true, true, true, false, false, false, false, false, false, false, false, false, false, false, false] rfl rfl (by kernel_rfl) (by decide) (fun K hK => ?_)
        refine goes_ Tryz.func15 (by kernel_rfl) rfl #[.agg #[.int .i64 kd0, .string tx0, .slice none 0 0, .slice none 0 0], .agg #[.int .i64 kd15, .slice ak15 nk15 ck15, .slice a115 n115 c115, .slice a215 n215 c215]] (by rfl) rfl rfl (by simp only [List.map_toArray, List.map_cons, List.map_nil]; rfl) ?_
        with_reducible refine (yes_in' ho HWK.out (HMK.out w15) (hmt15.mono (fr_le ((fr_le (mle_m0 _)).trans (mle_below hb15))))).mono ?_
        rintro e w16 ⟨rfl, hg16⟩
        refine ⟨_, rfl, ?_⟩
        have hX16 := bl_heap hg16.below hX15
        have hK16 := bl_heap hg16.below hK15
        have hA16 := bl_trans hA15 hg16.below
        have hB16 := bl_trans hB15 hg16.below
        refine hK.out _ _ ⟨cell_blk hX16 0 rfl, cell_blk hX16 1 rfl, cell_blk hX16 2 rfl, cell_blk hX16 3 rfl, cell_blk hX16 4 rfl, cell_blk hX16 5 rfl, cell_blk hK16 0 rfl, cell_blk hK16 1 rfl, cell_blk hK16 2 rfl, cell_blk hK16 3 rfl, mle_below hA16 _ _ (((Gr.refl wr).alloc _).cell R0.out), mle_below hA16 _ _ (((Gr.refl wr).alloc _).cell R1.out), mle_below hA16 _ _ (((Gr.refl wr).alloc _).cell R2.out), mle_below hA16 _ _ (((Gr.refl wr).alloc _).cell R3.out)⟩ (fun hHeld => ?_)
        clear hK K
        refine norm_ (a' := ?_) ?_ ?_
        rotate_left
        · show Act.put _ (some 53) _ = _
          simp only [Act.put, List.setIfInBounds_toArray, List.set_cons_zero, List.set_cons_succ, i64_w, i32_w]
          rfl
        refine pure_ (i := 5) (N := some 54) (v := ?_) (a' := ?_) #[true, true, true, true, true, true, false, false, false, false, false, false, false, false, false, false, false] rfl rfl (by kernel_rfl) (fun _ _ _ h => h) (Or.inl ⟨by rfl, ?_⟩) ?_ ?_
        rotate_left
        · intro w'
          go_simp
          with_reducible rfl
        rotate_left
        · simp only [Act.put, List.setIfInBounds_toArray, List.set_cons_zero, List.set_cons_succ, i64_w, i32_w]
          rfl
        refine pure_ (i := 6) (N := some 55) (v := ?_) (a' := ?_) #[true, true, true, true, true, true, true, false, false, false, false, false, false, false, false, false, false] rfl rfl (by kernel_rfl) (fun _ _ _ h => h) (Or.inl ⟨by rfl, ?_⟩) ?_ ?_
        rotate_left
        · intro w'
          go_simp
          with_reducible rfl
        rotate_left
        · simp only [Act.put, List.setIfInBounds_toArray, List.set_cons_zero, List.set_cons_succ, i64_w, i32_w]
          rfl
        refine pure_ (i := 7) (N := some 56) (v := ?_) (a' := ?_) #[true, true, true, true, true, true, true, true, false, false, false, false, false, false, false, false, false] rfl rfl (by kernel_rfl) (fun _ _ _ h => h) (Or.inl ⟨by rfl, ?_⟩) ?_ ?_
        rotate_left
        · intro w'
          go_simp
          with_reducible rfl
        rotate_left
        · simp only [Act.put, List.setIfInBounds_toArray, List.set_cons_zero, List.set_cons_succ, i64_w, i32_w]
          rfl
        refine pure_ (i := 8) (N := some 57) (v := ?_) (a' := ?_) #[true, true, true, true, true, true, true, true, true, false, false, false, false, false, false, false, false] rfl rfl (by kernel_rfl) (fun _ _ _ h => h) (Or.inl ⟨by rfl, ?_⟩) ?_ ?_
        rotate_left
        · intro w'
          go_simp
          with_reducible rfl
        rotate_left
        · simp only [Act.put, List.setIfInBounds_toArray, List.set_cons_zero, List.set_cons_succ, i64_w, i32_w]
          rfl
        refine pure_ (i := 9) (N := some 58) (v := ?_) (a' := ?_) #[true, true, true, true, true, true, true, true, true, true, false, false, false, false, false, false, false] rfl rfl (by kernel_rfl) (fun _ _ _ h => h) (Or.inl ⟨by rfl, ?_⟩) ?_ ?_
        rotate_left
        · intro w'
          go_simp
          with_reducible rfl
        rotate_left
        · simp only [Act.put, List.setIfInBounds_toArray, List.set_cons_zero, List.set_cons_succ, i64_w, i32_w]
          rfl
        refine take_ (i := 10) (N := some 59) (v := ?_) (a' := ?_) #[true, true, true, true, true, true, true, true, true, true, true, false, false, false, false, false, false] rfl rfl (by kernel_rfl) (fun _ _ _ h => h) (Or.inl ⟨by rfl, ?_⟩) hHeld ?_ ?_
        rotate_left
        · rintro w' ⟨s0, s1, s2, s3, s4, s5, s6, s7, s8, s9, s10, s11, s12, s13⟩
          go_simp
          with_reducible rfl
        rotate_left
        · simp only [Act.put, List.setIfInBounds_toArray, List.set_cons_zero, List.set_cons_succ, i64_w, i32_w]
          rfl
        refine take_ (i := 11) (N := some 60) (v := ?_) (a' := ?_) #[true, true, true, true, true, true, true, true, true, true, true, true, false, false, false, false, false] rfl rfl (by kernel_rfl) (fun _ _ _ h => h) (Or.inl ⟨by rfl, ?_⟩) hHeld ?_ ?_
        rotate_left
        · rintro w' ⟨s0, s1, s2, s3, s4, s5, s6, s7, s8, s9, s10, s11, s12, s13⟩
          go_simp
          with_reducible rfl
        rotate_left
        · simp only [Act.put, List.setIfInBounds_toArray, List.set_cons_zero, List.set_cons_succ, i64_w, i32_w]
          rfl
        refine one_ (i := 12) (N := some 61) #[true, true, true, true, true, true, true, true, true, true, true, true, true, false, false, false, false] rfl rfl (by kernel_rfl) (by decide) (fun K hK => ?_)
        refine goes_ Tryz.func32 (by kernel_rfl) rfl #[.agg #[.int .i64 kd, .string nm, .string tx, .slice ak nk ck, .slice a1 n1 c1, .slice a2 n2 c2]] (by rfl) rfl rfl (by simp only [List.map_toArray, List.map_cons, List.map_nil]; rfl) ?_
        with_reducible refine (ivals_any (P := YesR v.kids[k]) HV.out (pt_bt HPT.out) (Nat.le_trans HW5.out (by decide)) (HM.out.trans (mle_below hB16)) HVS.out (fun o h => h.w)).mono ?_
        rintro e w17 ⟨o7, ho7, ak17, nk17, ck17, a117, n117, c117, a217, n217, c217, rfl, hmi17, hb17⟩
        refine ⟨_, rfl, ?_⟩
        have hX17 := bl_heap hb17 hX16
        have hK17 := bl_heap hb17 hK16
        have hA17 := bl_trans hA16 hb17
        have hB17 := bl_trans hB16 hb17
        refine hK.out _ _ ⟨cell_blk hX17 0 rfl, cell_blk hX17 1 rfl, cell_blk hX17 2 rfl, cell_blk hX17 3 rfl, cell_blk hX17 4 rfl, cell_blk hX17 5 rfl, cell_blk hK17 0 rfl, cell_blk hK17 1 rfl, cell_blk hK17 2 rfl, cell_blk hK17 3 rfl, mle_below hA17 _ _ (((Gr.refl wr).alloc _).cell R0.out), mle_below hA17 _ _ (((Gr.refl wr).alloc _).cell R1.out), mle_below hA17 _ _ (((Gr.refl wr).alloc _).cell R2.out), mle_below hA17 _ _ (((Gr.refl wr).alloc _).cell R3.out)⟩ (fun hHeld => ?_)
        clear hK K
        refine norm_ (a' := ?_) ?_ ?_
        rotate_left
        · show Act.put _ (some 61) _ = _
          simp only [Act.put, List.setIfInBounds_toArray, List.set_cons_zero, List.set_cons_succ, i64_w, i32_w]
          rfl
        refine one_ (i := 13) (N := some 62) #[true, true, true, true, true, true, true, true, true, true, true, true, true, true, false, false, false] rfl rfl (by kernel_rfl) (by decide) (fun K hK => ?_)
        refine goes_ Tryz.func20 (by kernel_rfl) rfl #[.agg #[.int .i64 (oI o7).kind, .string ⟨#[]⟩, .string ⟨#[]⟩, .slice ak17 nk17 ck17, .slice a117 n117 c117, .slice a217 n217 c217]] (by rfl) rfl rfl (by simp only [List.map_toArray, List.map_cons, List.map_nil]; rfl) ?_
        with_reducible refine (given_any (oI o7) _ _ _ _ _ _ _ _ _ _ _ _ _ w17 (yes_bd ho7) hmi17 (fr_le (mle_m0 _))).mono ?_
        rintro e w18 ⟨kd18, ak18, nk18, ck18, a118, n118, c118, a218, n218, c218, rfl, hmt18, hb18⟩
        refine ⟨_, rfl, ?_⟩
        have hX18 := bl_heap hb18 hX17
        have hK18 := bl_heap hb18 hK17
        have hA18 := bl_trans hA17 hb18
        have hB18 := bl_trans hB17 hb18
        refine hK.out _ _ ⟨cell_blk hX18 0 rfl, cell_blk hX18 1 rfl, cell_blk hX18 2 rfl, cell_blk hX18 3 rfl, cell_blk hX18 4 rfl, cell_blk hX18 5 rfl, cell_blk hK18 0 rfl, cell_blk hK18 1 rfl, cell_blk hK18 2 rfl, cell_blk hK18 3 rfl, mle_below hA18 _ _ (((Gr.refl wr).alloc _).cell R0.out), mle_below hA18 _ _ (((Gr.refl wr).alloc _).cell R1.out), mle_below hA18 _ _ (((Gr.refl wr).alloc _).cell R2.out), mle_below hA18 _ _ (((Gr.refl wr).alloc _).cell R3.out)⟩ (fun hHeld => ?_)
        clear hK K
        refine norm_ (a' := ?_) ?_ ?_
        rotate_left
        · show Act.put _ (some 62) _ = _
          simp only [Act.put, List.setIfInBounds_toArray, List.set_cons_zero, List.set_cons_succ, i64_w, i32_w]
          rfl
        refine one_ (i := 14) (N := some 63) #[true, true, true, true, true, true, true, true, true, true, true, true, true, true, true, false, false] rfl rfl (by kernel_rfl) (by decide) (fun K hK => ?_)
        refine goes_ Tryz.func15 (by kernel_rfl) rfl #[.agg #[.int .i64 kdv, .string txv, .slice akw nkw ckw, .slice a1w n1w c1w], .agg #[.int .i64 kd18, .slice ak18 nk18 ck18, .slice a118 n118 c118, .slice a218 n218 c218]] (by rfl) rfl rfl (by simp only [List.map_toArray, List.map_cons, List.map_nil]; rfl) ?_
        with_reducible refine (yes_in' ho7 HPU.out (HMV.out.mono ((mle_below HB910.out).trans (HMR.out.trans ((mle_alloc (MLe.refl _) _).trans (mle_below hA18))))) (hmt18.mono (fr_le ((fr_le (mle_m0 _)).trans (mle_below hb18))))).mono ?_
        rintro e w19 ⟨rfl, hg19⟩
        refine ⟨_, rfl, ?_⟩
        have hX19 := bl_heap hg19.below hX18
        have hK19 := bl_heap hg19.below hK18
        have hA19 := bl_trans hA18 hg19.below
        have hB19 := bl_trans hB18 hg19.below
        refine hK.out _ _ ⟨cell_blk hX19 0 rfl, cell_blk hX19 1 rfl, cell_blk hX19 2 rfl, cell_blk hX19 3 rfl, cell_blk hX19 4 rfl, cell_blk hX19 5 rfl, cell_blk hK19 0 rfl, cell_blk hK19 1 rfl, cell_blk hK19 2 rfl, cell_blk hK19 3 rfl, mle_below hA19 _ _ (((Gr.refl wr).alloc _).cell R0.out), mle_below hA19 _ _ (((Gr.refl wr).alloc _).cell R1.out), mle_below hA19 _ _ (((Gr.refl wr).alloc _).cell R2.out), mle_below hA19 _ _ (((Gr.refl wr).alloc _).cell R3.out)⟩ (fun hHeld => ?_)
        clear hK K
        refine norm_ (a' := ?_) ?_ ?_
        rotate_left
        · show Act.put _ (some 63) _ = _
          simp only [Act.put, List.setIfInBounds_toArray, List.set_cons_zero, List.set_cons_succ, i64_w, i32_w]
          rfl
        refine pure_ (i := 15) (N := some 64) (v := ?_) (a' := ?_) #[true, true, true, true, true, true, true, true, true, true, true, true, true, true, true, true, false] rfl rfl (by kernel_rfl) (fun _ _ _ h => h) (Or.inl ⟨by rfl, ?_⟩) ?_ ?_
        rotate_left
        · intro w'
          go_simp
          with_reducible rfl
        rotate_left
        · simp only [Act.put, List.setIfInBounds_toArray, List.set_cons_zero, List.set_cons_succ, i64_w, i32_w]
          rfl
        refine pure_ (i := 16) (N := some 65) (v := ?_) (a' := ?_) #[true, true, true, true, true, true, true, true, true, true, true, true, true, true, true, true, true] rfl rfl (by kernel_rfl) (fun _ _ _ h => h) (Or.inl ⟨by rfl, ?_⟩) ?_ ?_
        rotate_left
        · intro w'
          go_simp
          with_reducible rfl
        rotate_left
        · simp only [Act.put, List.setIfInBounds_toArray, List.set_cons_zero, List.set_cons_succ, i64_w, i32_w]
          rfl
        refine done_ (by kernel_rfl) ?_
        have HEND := Lib.hid (bl_trans (bl_alloc hI.out _) hA19)
        clear hHeld hX14 hK14 hA14 hB14 hb14 hmi14 hX15 hK15 hA15 hB15 hb15 hmt15 hX16 hK16 hA16 hB16 hg16 hX17 hK17 hA17 hB17 hb17 hmi17 hX18 hK18 hA18 hB18 hb18 hmt18 hX19 hK19 hA19 hB19 hg19 ho ho7
        go_wp2
        go_roundw
        case rel => exact ⟨k + 1, by omega, by go_num, HEND.out⟩
        case measure => simp [intOf]; omega
      · obtain rfl : k = v.kids.length := by omega
        go_wp2_with (go_at_call 17; refine (works_any _).mono ?_; rintro e wz ⟨rfl, hgz⟩; have HBZ := Lib.hid (bl_trans HBR.out hgz.below); clear hgz)
        go_ret
        exact ⟨rfl, HBZ.out⟩
/-- The law FnKeysAndValues. -/
theorem law_keysValues {t : IT} {v : Vl} {m : Mem} {kd : Int} {nm tx : ByteArray} {ak a1 a2 : Option Addr} {nk ck n1 c1 n2 c2 : Nat} {kv : Int} {vx : ByteArray} {akv a1v : Option Addr} {nkv ckv n1v c1v : Nat} {w : World} (hb : BdI t) (hbv : BdV v) (hv : MIT m (itCells kd nm tx ak nk ck a1 n1 c1 a2 n2 c2) t) (hw : MV m (vlCells kv vx akv nkv ckv a1v n1v c1v) v) (hm : MLe m w.cell?) :
    Calls Tryz.prog 9 #[.agg #[.int .i64 kd, .string nm, .string tx, .slice ak nk ck, .slice a1 n1 c1, .slice a2 n2 c2], .agg #[.int .i64 kv, .string vx, .slice akv nkv ckv, .slice a1v n1v c1v]] w (LawQ w) := by
  by_cases hp : PV (valOf v)
  · by_cases hin : InP (kindOf t) (valOf v)
    · exact ls9_in1 hb hbv hv hw hm hp hin
    · exact ls9_in0 hb hbv hv hw hm hp hin
  · exact ls9_pv hb hbv hv hw hm hp
end Go.Proofs.YtaglgokeejjagaaGreat
