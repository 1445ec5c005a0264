/- 'built' of arrays. -/
import Derived.Test.YtaglgokeejjagaaGreatBui
namespace Go.Proofs.YtaglgokeejjagaaGreat
set_option linter.unusedVariables false
set_option linter.unusedSimpArgs false
open Go.RowKit Go.Sort Go.Proofs.YtaglgokeejjagaaGreatW.PrintLast

set_option maxHeartbeats 4000000 in
set_option maxRecDepth 100000 in
theorem bu_arr0 {m : Mem} {nm tx : ByteArray} {ak a1 a2 : Option Addr} {nk ck c1 c2 : Nat} {ts : List IT} (w : World) (IH : Hid (∀ t ∈ ts, BuOk t)) (hr : RowIT m a1 ts) (lk : lenOk ts.length c1) (hb : ∀ t ∈ ts, BT (toS t)) (hw : ∀ t ∈ ts, WI t ≤ 100000) (hn : ts.length ≤ 100000) (hm : MLe m w.cell?) :
    Calls Tryz.prog 46 #[.agg #[.int .i64 5, .string nm, .string tx, .slice ak nk ck, .slice a1 ts.length c1, .slice a2 0 c2]] w (BuP (.mk 5 [] (ts.map fun t => nrm (toS t)) []) w) := by
  have HALL := Lib.hid (fun W hW => all_any (w := W) IH hr lk hb hw hn hW)
  have HM := Lib.hid hm
  clear hr lk hb hw hn hm
  generalize (ts.map fun t => nrm (toS t)) = L at HALL ⊢
  go_enter Tryz.func46, Tryz.ntmps46
  go_wp2_with fail
  have HX0 := Lib.hid (al_new (w := w) (o := .cells #[.int .i64 5, .string nm, .string tx, .slice ak nk ck, .slice a1 ts.length c1, .slice a2 0 c2] 25) rfl)
  have HB0 := Lib.hid (bl_alloc (Below.refl _ w) (.cells #[.int .i64 5, .string nm, .string tx, .slice ak nk ck, .slice a1 ts.length c1, .slice a2 0 c2] 25))
  generalize (w.alloc (.cells #[.int .i64 5, .string nm, .string tx, .slice ak nk ck, .slice a1 ts.length c1, .slice a2 0 c2] 25)) = W at HX0 HB0 ⊢
  have HM0 := Lib.hid (HM.out.trans (mle_below HB0.out))
  refine start_ (n := 9) (S := fun w' => w'.cell? ⟨w.heap.size, 4, none⟩ = some (.slice a1 ts.length c1) ∧ w'.cell? ⟨w.heap.size, 5, none⟩ = some (.slice a2 0 c2)) (ds := []) #[false, false, false, false, false, false, false, false, false] (by kernel_rfl) rfl rfl ⟨cell_blk HX0.out 4 rfl, cell_blk HX0.out 5 rfl⟩ (fun hHeld => ?_)
  refine pure_ (i := 0) (N := some 26) (v := ?_) (a' := ?_) #[true, false, false, false, false, false, false, false, false] rfl rfl (by kernel_rfl) (fun _ _ _ h => h) (Or.inl ⟨by rfl, ?_⟩) ?_ ?_
  rotate_left
  · intro w'
    go_simp
    with_reducible rfl
  rotate_left
  · simp only [Act.put, List.setIfInBounds_toArray, List.set_cons_zero, List.set_cons_succ, i64_w, i32_w]
    rfl
  refine pure_ (i := 3) (N := some 29) (v := ?_) (a' := ?_) #[true, false, false, true, false, false, false, false, false] rfl rfl (by kernel_rfl) (fun _ _ _ h => h) (Or.inl ⟨by rfl, ?_⟩) ?_ ?_
  rotate_left
  · intro w'
    go_simp
    with_reducible rfl
  rotate_left
  · simp only [Act.put, List.setIfInBounds_toArray, List.set_cons_zero, List.set_cons_succ, i64_w, i32_w]
    rfl
  refine take_ (i := 1) (N := some 27) (v := ?_) (a' := ?_) #[true, true, false, true, false, false, false, false, false] rfl rfl (by kernel_rfl) (fun _ _ _ h => h) (Or.inl ⟨by rfl, ?_⟩) hHeld ?_ ?_
  rotate_left
  · rintro w' ⟨s0, s1⟩
    go_simp
    with_reducible rfl
  rotate_left
  · simp only [Act.put, List.setIfInBounds_toArray, List.set_cons_zero, List.set_cons_succ, i64_w, i32_w]
    rfl
  refine take_ (i := 4) (N := some 30) (v := ?_) (a' := ?_) #[true, true, false, true, true, false, false, false, false] rfl rfl (by kernel_rfl) (fun _ _ _ h => h) (Or.inl ⟨by rfl, ?_⟩) hHeld ?_ ?_
  rotate_left
  · rintro w' ⟨s0, s1⟩
    go_simp
    with_reducible rfl
  rotate_left
  · simp only [Act.put, List.setIfInBounds_toArray, List.set_cons_zero, List.set_cons_succ, i64_w, i32_w]
    rfl
  refine one_ (i := 2) (N := some 28) #[true, true, true, true, true, false, false, false, false] rfl rfl (by kernel_rfl) (by decide) (fun K hK => ?_)
  refine goes_ Tryz.func78 (by kernel_rfl) rfl #[.slice a1 ts.length c1] (by rfl) rfl rfl (by simp only [List.map_toArray, List.map_cons, List.map_nil]; rfl) ?_
  with_reducible refine (HALL.out _ (mle_drew HM0.out)).mono ?_
  rintro e w2 ⟨a, c, xs, rfl, lk, hl, row, hrt, hbl⟩
  refine ⟨_, rfl, ?_⟩
  have HLK := Lib.hid lk
  have HLL := Lib.hid hl
  have HROW := Lib.hid row
  have HRT := Lib.hid hrt
  have HBL := Lib.hid hbl
  have HX2 := Lib.hid (bl_heap hbl HX0.out)
  clear lk hl row hrt hbl
  refine hK.out _ _ ⟨cell_blk HX2.out 4 rfl, cell_blk HX2.out 5 rfl⟩ (fun hHeld => ?_)
  clear hK K
  refine norm_ (a' := ?_) ?_ ?_
  rotate_left
  · show Act.put _ (some 28) _ = _
    simp only [Act.put, List.setIfInBounds_toArray, List.set_cons_zero, List.set_cons_succ, i64_w, i32_w]
    rfl
  refine one_ (i := 5) (N := some 31) #[true, true, true, true, true, true, false, false, false] rfl rfl (by kernel_rfl) (by decide) (fun K hK => ?_)
  refine goes_ Tryz.func79 (by kernel_rfl) rfl #[.slice a2 0 c2, .int .i64 0] (by rfl) rfl rfl (by simp only [List.map_toArray, List.map_cons, List.map_nil]; rfl) ?_
  with_reducible refine (at_nil (by simp) _).mono ?_
  rintro e w3 ⟨rfl, hww⟩
  refine ⟨_, rfl, ?_⟩
  have hww := hww.symm
  subst hww
  refine hK.out _ _ ⟨cell_blk HX2.out 4 rfl, cell_blk HX2.out 5 rfl⟩ (fun hHeld => ?_)
  clear hK K
  refine norm_ (a' := ?_) ?_ ?_
  rotate_left
  · show Act.put _ (some 31) _ = _
    simp only [Act.put, List.setIfInBounds_toArray, List.set_cons_zero, List.set_cons_succ, i64_w, i32_w]
    rfl
  refine one_ (i := 6) (N := some 32) #[true, true, true, true, true, true, true, false, false] rfl rfl (by kernel_rfl) (by decide) (fun K hK => ?_)
  refine goes_ Tryz.func77 (by kernel_rfl) rfl #[.slice a L.length c, .nilIface] (by rfl) rfl rfl (by simp only [List.map_toArray, List.map_cons, List.map_nil]; rfl) ?_
  with_reducible refine (nar_any _ _ _ _ (.inl rfl) _).mono ?_
  rintro e w4 ⟨rfl, rfl⟩
  refine ⟨_, rfl, ?_⟩
  refine hK.out _ _ ⟨cell_blk (al_old HX2.out) 4 rfl, cell_blk (al_old HX2.out) 5 rfl⟩ (fun hHeld => ?_)
  clear hK K
  refine norm_ (a' := ?_) ?_ ?_
  rotate_left
  · show Act.put _ (some 32) _ = _
    simp only [Act.put, List.setIfInBounds_toArray, List.set_cons_zero, List.set_cons_succ, i64_w, i32_w]
    rfl
  refine pure_ (i := 7) (N := some 33) (v := ?_) (a' := ?_) #[true, true, true, true, true, true, true, true, false] rfl rfl (by kernel_rfl) (fun _ _ _ h => h) (Or.inl ⟨by rfl, ?_⟩) ?_ ?_
  rotate_left
  · intro w'
    go_simp
    with_reducible rfl
  rotate_left
  · simp only [Act.put, List.setIfInBounds_toArray, List.set_cons_zero, List.set_cons_succ, i64_w, i32_w]
    rfl
  refine pure_ (i := 8) (N := some 2) (v := ?_) (a' := ?_) #[true, true, true, true, true, true, true, true, true] rfl rfl (by kernel_rfl) (fun _ _ _ h => h) (Or.inl ⟨by rfl, ?_⟩) ?_ ?_
  rotate_left
  · intro w'
    go_simp
    with_reducible rfl
  rotate_left
  · simp only [Act.put, List.setIfInBounds_toArray, List.set_cons_zero, List.set_cons_succ, i64_w, i32_w]
    rfl
  refine done_ (by kernel_rfl) ?_
  go_wp2
  go_ret
  have hs0 := HB0.out.size
  have hs2 := HBL.out.size
  simp only [World.size_drew] at hs2
  have hup := fun B1 (h : w.heap.size ≤ B1) => fr_up (w' := w2.alloc (.cells #[.slice a L.length c, .nilIface] 151)) h ((Below.refl _ w2).alloc (Nat.le_refl _) _)
  refine ⟨_, rfl, ?_, bl_alloc (bl_trans HB0.out.drew HBL.out) _⟩
  exact RT.arr (ds := []) (fr_cell (by omega) (al_new rfl) rfl) (fr_cell (by omega) (al_new rfl) rfl) HLK.out HLL.out (HROW.out.mono (hup _ (by simpa using hs0))) (fun i h1 h2 => (HRT.out i h1 h2).mono (hup _ (by simpa using hs0))) rfl (by simp) (fun i h => absurd h (Nat.not_lt_zero _))

set_option maxHeartbeats 4000000 in
set_option maxRecDepth 100000 in
theorem bu_arr1 {m : Mem} {nm tx : ByteArray} {ak a1 a2 : Option Addr} {nk ck c1 c2 : Nat} {ts : List IT} {d : IT} (w : World) (IH : Hid (∀ t ∈ ts, BuOk t)) (hr : RowIT m a1 ts) (lk : lenOk ts.length c1) (hb : ∀ t ∈ ts, BT (toS t)) (hw : ∀ t ∈ ts, WI t ≤ 100000) (hn : ts.length ≤ 100000)
    (IHd : Hid (BuOk d)) (hrd : RowIT m a2 [d]) (lkd : lenOk 1 c2) (hbd : BT (toS d)) (hwd : WI d ≤ 100000) (hm : MLe m w.cell?) :
    Calls Tryz.prog 46 #[.agg #[.int .i64 5, .string nm, .string tx, .slice ak nk ck, .slice a1 ts.length c1, .slice a2 1 c2]] w (BuP (.mk 5 [] (ts.map fun t => nrm (toS t)) [nrm (toS d)]) w) := by
  have HALL := Lib.hid (fun W hW => all_any (w := W) IH hr lk hb hw hn hW)
  have HAT := Lib.hid (fun W hW => show Calls Tryz.prog 79 #[.slice a2 1 c2, .int .i64 0] W (BuP (nrm (toS d)) W) from at_some (w := W) (ts := [d]) (i := 0) hrd lkd (by simp) IHd hbd hwd hW)
  have HM := Lib.hid hm
  clear hr lk hb hw hn hm hrd lkd hbd hwd
  generalize (ts.map fun t => nrm (toS t)) = L at HALL ⊢
  go_enter Tryz.func46, Tryz.ntmps46
  go_wp2_with fail
  have HX0 := Lib.hid (al_new (w := w) (o := .cells #[.int .i64 5, .string nm, .string tx, .slice ak nk ck, .slice a1 ts.length c1, .slice a2 1 c2] 25) rfl)
  have HB0 := Lib.hid (bl_alloc (Below.refl _ w) (.cells #[.int .i64 5, .string nm, .string tx, .slice ak nk ck, .slice a1 ts.length c1, .slice a2 1 c2] 25))
  generalize (w.alloc (.cells #[.int .i64 5, .string nm, .string tx, .slice ak nk ck, .slice a1 ts.length c1, .slice a2 1 c2] 25)) = W at HX0 HB0 ⊢
  have HM0 := Lib.hid (HM.out.trans (mle_below HB0.out))
  refine start_ (n := 9) (S := fun w' => w'.cell? ⟨w.heap.size, 4, none⟩ = some (.slice a1 ts.length c1) ∧ w'.cell? ⟨w.heap.size, 5, none⟩ = some (.slice a2 1 c2)) (ds := []) #[false, false, false, false, false, false, false, false, false] (by kernel_rfl) rfl rfl ⟨cell_blk HX0.out 4 rfl, cell_blk HX0.out 5 rfl⟩ (fun hHeld => ?_)
  refine pure_ (i := 0) (N := some 26) (v := ?_) (a' := ?_) #[true, false, false, false, false, false, false, false, false] rfl rfl (by kernel_rfl) (fun _ _ _ h => h) (Or.inl ⟨by rfl, ?_⟩) ?_ ?_
  rotate_left
  · intro w'
    go_simp
    with_reducible rfl
  rotate_left
  · simp only [Act.put, List.setIfInBounds_toArray, List.set_cons_zero, List.set_cons_succ, i64_w, i32_w]
    rfl
  refine pure_ (i := 3) (N := some 29) (v := ?_) (a' := ?_) #[true, false, false, true, false, false, false, false, false] rfl rfl (by kernel_rfl) (fun _ _ _ h => h) (Or.inl ⟨by rfl, ?_⟩) ?_ ?_
  rotate_left
  · intro w'
    go_simp
    with_reducible rfl
  rotate_left
  · simp only [Act.put, List.setIfInBounds_toArray, List.set_cons_zero, List.set_cons_succ, i64_w, i32_w]
    rfl
  refine take_ (i := 1) (N := some 27) (v := ?_) (a' := ?_) #[true, true, false, true, false, false, false, false, false] rfl rfl (by kernel_rfl) (fun _ _ _ h => h) (Or.inl ⟨by rfl, ?_⟩) hHeld ?_ ?_
  rotate_left
  · rintro w' ⟨s0, s1⟩
    go_simp
    with_reducible rfl
  rotate_left
  · simp only [Act.put, List.setIfInBounds_toArray, List.set_cons_zero, List.set_cons_succ, i64_w, i32_w]
    rfl
  refine take_ (i := 4) (N := some 30) (v := ?_) (a' := ?_) #[true, true, false, true, true, false, false, false, false] rfl rfl (by kernel_rfl) (fun _ _ _ h => h) (Or.inl ⟨by rfl, ?_⟩) hHeld ?_ ?_
  rotate_left
  · rintro w' ⟨s0, s1⟩
    go_simp
    with_reducible rfl
  rotate_left
  · simp only [Act.put, List.setIfInBounds_toArray, List.set_cons_zero, List.set_cons_succ, i64_w, i32_w]
    rfl
  refine one_ (i := 2) (N := some 28) #[true, true, true, true, true, false, false, false, false] rfl rfl (by kernel_rfl) (by decide) (fun K hK => ?_)
  refine goes_ Tryz.func78 (by kernel_rfl) rfl #[.slice a1 ts.length c1] (by rfl) rfl rfl (by simp only [List.map_toArray, List.map_cons, List.map_nil]; rfl) ?_
  with_reducible refine (HALL.out _ (mle_drew HM0.out)).mono ?_
  rintro e w2 ⟨a, c, xs, rfl, lk, hl, row, hrt, hbl⟩
  refine ⟨_, rfl, ?_⟩
  have HLK := Lib.hid lk
  have HLL := Lib.hid hl
  have HROW := Lib.hid row
  have HRT := Lib.hid hrt
  have HBL := Lib.hid hbl
  have HX2 := Lib.hid (bl_heap hbl HX0.out)
  clear lk hl row hrt hbl
  refine hK.out _ _ ⟨cell_blk HX2.out 4 rfl, cell_blk HX2.out 5 rfl⟩ (fun hHeld => ?_)
  clear hK K
  refine norm_ (a' := ?_) ?_ ?_
  rotate_left
  · show Act.put _ (some 28) _ = _
    simp only [Act.put, List.setIfInBounds_toArray, List.set_cons_zero, List.set_cons_succ, i64_w, i32_w]
    rfl
  refine one_ (i := 5) (N := some 31) #[true, true, true, true, true, true, false, false, false] rfl rfl (by kernel_rfl) (by decide) (fun K hK => ?_)
  refine goes_ Tryz.func79 (by kernel_rfl) rfl #[.slice a2 1 c2, .int .i64 0] (by rfl) rfl rfl (by simp only [List.map_toArray, List.map_cons, List.map_nil]; rfl) ?_
  with_reducible refine (HAT.out _ ((mle_drew HM0.out).trans (mle_below HBL.out))).mono ?_
  rintro e w3 ⟨v, rfl, hrt, hbl⟩
  refine ⟨_, rfl, ?_⟩
  obtain ⟨Ty, y, rfl⟩ := hrt.shape
  have HRT3 := Lib.hid hrt
  have HBL3 := Lib.hid hbl
  have HX3 := Lib.hid (bl_heap hbl HX2.out)
  clear hrt hbl
  refine hK.out _ _ ⟨cell_blk HX3.out 4 rfl, cell_blk HX3.out 5 rfl⟩ (fun hHeld => ?_)
  clear hK K
  refine norm_ (a' := ?_) ?_ ?_
  rotate_left
  · show Act.put _ (some 31) _ = _
    simp only [Act.put, List.setIfInBounds_toArray, List.set_cons_zero, List.set_cons_succ, i64_w, i32_w]
    rfl
  refine one_ (i := 6) (N := some 32) #[true, true, true, true, true, true, true, false, false] rfl rfl (by kernel_rfl) (by decide) (fun K hK => ?_)
  refine goes_ Tryz.func77 (by kernel_rfl) rfl #[.slice a L.length c, .iface Ty y] (by rfl) rfl rfl (by simp only [List.map_toArray, List.map_cons, List.map_nil]; rfl) ?_
  with_reducible refine (nar_any _ _ _ _ (.inr ⟨_, _, rfl⟩) _).mono ?_
  rintro e w4 ⟨rfl, rfl⟩
  refine ⟨_, rfl, ?_⟩
  refine hK.out _ _ ⟨cell_blk (al_old HX3.out) 4 rfl, cell_blk (al_old HX3.out) 5 rfl⟩ (fun hHeld => ?_)
  clear hK K
  refine norm_ (a' := ?_) ?_ ?_
  rotate_left
  · show Act.put _ (some 32) _ = _
    simp only [Act.put, List.setIfInBounds_toArray, List.set_cons_zero, List.set_cons_succ, i64_w, i32_w]
    rfl
  refine pure_ (i := 7) (N := some 33) (v := ?_) (a' := ?_) #[true, true, true, true, true, true, true, true, false] rfl rfl (by kernel_rfl) (fun _ _ _ h => h) (Or.inl ⟨by rfl, ?_⟩) ?_ ?_
  rotate_left
  · intro w'
    go_simp
    with_reducible rfl
  rotate_left
  · simp only [Act.put, List.setIfInBounds_toArray, List.set_cons_zero, List.set_cons_succ, i64_w, i32_w]
    rfl
  refine pure_ (i := 8) (N := some 2) (v := ?_) (a' := ?_) #[true, true, true, true, true, true, true, true, true] rfl rfl (by kernel_rfl) (fun _ _ _ h => h) (Or.inl ⟨by rfl, ?_⟩) ?_ ?_
  rotate_left
  · intro w'
    go_simp
    with_reducible rfl
  rotate_left
  · simp only [Act.put, List.setIfInBounds_toArray, List.set_cons_zero, List.set_cons_succ, i64_w, i32_w]
    rfl
  refine done_ (by kernel_rfl) ?_
  go_wp2
  go_ret
  have hs0 := HB0.out.size
  have hs2 := HBL.out.size
  have hs3 := HBL3.out.size
  simp only [World.size_drew] at hs2
  have hup := fun B1 (h : w.heap.size ≤ B1) => fr_up (w' := w3.alloc (.cells #[.slice a L.length c, .iface Ty y] 151)) h (bl_alloc HBL3.out _)
  have hup3 := fun B1 (h : w.heap.size ≤ B1) => fr_up (w' := w3.alloc (.cells #[.slice a L.length c, .iface Ty y] 151)) h ((Below.refl _ w3).alloc (Nat.le_refl _) _)
  refine ⟨_, rfl, ?_, bl_alloc (bl_trans (bl_trans HB0.out.drew HBL.out) HBL3.out) _⟩
  exact RT.arr (ds := [.iface Ty y]) (fr_cell (by omega) (al_new rfl) rfl) (fr_cell (by omega) (al_new rfl) rfl) HLK.out HLL.out (HROW.out.mono (hup _ (by simpa using hs0))) (fun i h1 h2 => (HRT.out i h1 h2).mono (hup _ (by simpa using hs0))) rfl (by simp) (fun i h1 h2 => by
    obtain rfl : i = 0 := by simp at h1; omega
    exact HRT3.out.mono (hup3 _ (by omega)))
end Go.Proofs.YtaglgokeejjagaaGreat
