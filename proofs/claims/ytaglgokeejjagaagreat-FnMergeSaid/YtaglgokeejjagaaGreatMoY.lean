/- 'Merge' of an object type with any type. -/
import Derived.Test.YtaglgokeejjagaaGreatMoX
import Derived.Test.YtaglgokeejjagaaGreatIKv
import Derived.Test.YtaglgokeejjagaaGreatWLast
namespace Go.Proofs.YtaglgokeejjagaaGreat
set_option linter.unusedVariables false
set_option linter.unusedSimpArgs false
open Go.RowKit Go.Sort Go.Proofs.YtaglgokeejjagaaGreatW.PrintLast

set_option maxHeartbeats 2000000 in
set_option maxRecDepth 100000 in
theorem sprops59 {w : World} {b n c : Nat} {a : Option Addr} (h : w.cell? ⟨b, 0, none⟩ = some (.slice a n c)) : Calls Tryz.prog 59 #[.pointer (some ⟨b, 0, none⟩)] w (SameP (.slice a n c) w) := by
  go_enter Tryz.func59, Tryz.ntmps59
  go_wp2
  go_ret
  exact ⟨rfl, rfl⟩
set_option maxHeartbeats 2000000 in
set_option maxRecDepth 100000 in
theorem dprops61 {w : World} {b : Nat} {d : Option Addr} (h : w.cell? ⟨b, 1, none⟩ = some (.pointer d)) : Calls Tryz.prog 61 #[.pointer (some ⟨b, 0, none⟩)] w (SameP (.pointer d) w) := by
  go_enter Tryz.func61, Tryz.ntmps61
  go_wp2
  go_ret
  exact ⟨rfl, rfl⟩
/-- What 'Merge' gives. -/
def MgW (m : Mem) (s t : ST) (w : World) (e : Ending) (w' : World) : Prop := ∃ p r, (t.kind = 6 → MoSt s t r) ∧ WS r ≤ 400000 ∧ e = .returned (.pointer p) ∧ RT (fr m w.heap.size w' none) (.iface 80 (.pointer p)) r ∧ Below w.heap.size w w'
set_option maxHeartbeats 2000000 in
set_option maxRecDepth 100000 in
theorem merge_obj {m : Mem} {w : World} {x y : Value} {s t : ST} (hx : RT m (.iface 80 x) s) (hy : RT m (.iface 80 y) t) (hm : MLe m (ucell w)) (hw : WS s + WS t ≤ 100000) : Calls Tryz.prog 49 #[x, .iface 80 y] w (MgW m s t w) := by
  have HC := Lib.hid (fun W hW => show Calls Tryz.prog 93 #[x, y] W (fun e w' => ∃ p r, MoSt s t r ∧ e = .returned (.pointer p) ∧ RT (fr m W.heap.size w' none) (.iface 80 (.pointer p)) r ∧ Below W.heap.size W w') from mo_any s t m x y W hx hy hW hw)
  have HM := Lib.hid hm
  obtain ⟨ba, PA, aa, ca, psa, xsa, dva, ma, rfl, rfl, hA, hda, hDA⟩ := obM_of hx
  obtain ⟨bb, PB, ab, cb, psb, xsb, dvb, mb, rfl, rfl, hB, hdb, hDB⟩ := obM_of hy
  have HW := Lib.hid hw
  clear hx hy hm hA hda hDA hB hdb hDB hw
  go_enter Tryz.func49, Tryz.ntmps49
  go_wp2_with (go_at_call 93; refine (HC.out _ HM.out).mono ?_; rintro e w2 ⟨q, r, hs, rfl, hr, hb⟩; have HS := Lib.hid hs; have HR := Lib.hid hr; have HB := Lib.hid hb; clear hs hr hb)
  go_ret
  exact ⟨_, r, fun _ => HS.out, by have := HS.out.w; have := HW.out; omega, rfl, HR.out, HB.out⟩
theorem ro_shape {m : Mem} {y : Value} {o : Option ST} (h : RO m y o) : (y = .nilIface ∧ o = none) ∨ ∃ s T u, y = .iface T u ∧ o = some s := by
  cases o with
  | none => exact .inl ⟨h, rfl⟩
  | some s => obtain ⟨T, u, e⟩ := (show RT m y s from h).shape'; exact .inr ⟨s, T, u, e, rfl⟩
theorem ow_rt {m : Mem} {y : Value} {s : ST} (h : RO m y (some s)) : WS s ≤ OWo (some s) + 1 := WS_ow s (show RT m y s from h).nt
theorem AskR.w {E : Vl → Vl → Prop} {s : ST} {o : Option ST} (h : AskR E s o) : OWo o ≤ WS s := h.2
theorem rt_ro {m : Mem} {y : Value} {s : ST} (h : RO m y (some s)) : RT m y s := h

set_option maxHeartbeats 8000000 in
set_option maxRecDepth 100000 in
theorem merge_oth {m : Mem} {w : World} {x u : Value} {T : Nat} {s t : ST} (hx : RT m (.iface 80 x) s) (hy : RT m (.iface T u) t) (h6 : ¬ T = 80) (hna : Na t) (hm : MLe m (ucell w)) (hw : WS s + WS t ≤ 50000) : Calls Tryz.prog 49 #[x, .iface T u] w (MgW m s t w) := by
  have HK6 := Lib.hid (show t.kind ≠ 6 from fun e => by cases hy <;> first | exact h6 rfl | exact absurd e (by simp [ST.kind]))
  have HKS := Lib.hid (fun (W : World) (hW : MLe m (ucell W)) => show Calls Tryz.prog 52 #[.iface T u] W (fun e w' => ∃ y o, AskR EK t o ∧ e = .returned y ∧ RO (fr m W.heap.size w' none) y o ∧ Below W.heap.size W w') from keys_all hy.nt hna (by omega) m _ W hy hW)
  have HVS := Lib.hid (fun (W : World) (hW : MLe m (ucell W)) => show Calls Tryz.prog 53 #[.iface T u] W (fun e w' => ∃ y o, AskR EW t o ∧ e = .returned y ∧ RO (fr m W.heap.size w' none) y o ∧ Below W.heap.size W w') from vals_all hy.nt hna (by omega) m _ W hy hW)
  have H6 := Lib.hid h6
  obtain ⟨ba, PA, aa, ca, psa, xsa, dva, ma, rfl, rfl, hA, hda, hDA⟩ := obM_of hx
  obtain ⟨da, rfl⟩ := hDA.ptr
  rw [ws_obj] at hw
  have HW := Lib.hid hw
  have HA := Lib.hid hA
  have HM := Lib.hid hm
  have HDA := Lib.hid hDA
  have HCA := Lib.hid hda
  have HLO := Lib.hid (lo_of_mle (hm.trans ucell_le))
  have HLA := Lib.hid (show PA.length ≤ 100000 from by have := pw_len PA; omega)
  have HFIN := Lib.hid (fun (more : List ST) (hmw : WSs more ≤ 300000) => show WS (.mk 6 (PA.map fun x => kyOf x.1) (PA.map (·.2)) more) ≤ 400000 from by rw [ws_obj]; omega)
  clear hx hy hna hm hw h6 hA hda hDA
  go_enter Tryz.func49, Tryz.ntmps49
  go_wp2_with fail
  rw [assert80 H6.out]
  cases da with
  | none =>
    go_wp2_with (first
      | (go_at_call 61; refine (dprops61 (ucell_le _ _ (HM.out _ _ HCA.out))).mono ?_; rintro e wz ⟨rfl, hww⟩; have hww := hww.symm; subst hww)
      | (go_at_call 52; refine (HKS.out _ HM.out).mono ?_; rintro e w3 ⟨yk, ok, hk, rfl, hrk, hb3⟩; have HK := Lib.hid hk; have HB3 := Lib.hid hb3; have HRK := Lib.hid hrk; rcases ro_shape hrk with ⟨rfl, rfl⟩ | ⟨sk, TK, uk, rfl, rfl⟩ <;> clear hk hb3 hrk)
      | (go_at_call 53; refine (HVS.out _ (HM.out.trans (mleU HB3.out))).mono ?_; rintro e w4 ⟨yv, ov, hv, rfl, hrv, hb4⟩; have HV := Lib.hid hv; have HBX := Lib.hid (bl_trans HB3.out hb4); have HB4 := Lib.hid hb4; have HRV := Lib.hid (hrv.mono (fr_lower (w' := w4) HLO.out HB3.out.size (fun _ _ _ => rfl))); have HDX := Lib.hid (show ∃ more, DyM (fr m w.heap.size w4 none) (.pointer none) more ∧ WSs more ≤ 300000 from ⟨[], .inl ⟨rfl, rfl⟩, by simp [WSs]⟩); rcases ro_shape hrv with ⟨rfl, rfl⟩ | ⟨sv, TV, uv, rfl, rfl⟩ <;> clear hv hb4 hrv)
      | (go_at_call 83; refine (ndp_any TK TV uk uv _).mono ?_; rintro e wd ⟨rfl, hwd⟩; have HBX := Lib.hid (show Below w.heap.size w wd from by rw [hwd]; exact bl_alloc HBX.out _); have HDX := Lib.hid (show ∃ more, DyM (fr m w.heap.size wd none) (.pointer (some ⟨w4.heap.size, 0, none⟩)) more ∧ WSs more ≤ 300000 from by
        have hat : wd.heap[w4.heap.size]? = some (.cells #[.iface TK uk, .iface TV uv] 107 (0, 0)) := by rw [hwd]; exact al_new rfl
        have hmo : MLe (fr m w.heap.size w4 none) (fr m w.heap.size wd none) := by rw [hwd]; exact fr_alloc _
        have h1 := ow_rt HRK.out; have h2 := ow_rt HRV.out; have h3 := HK.out.w; have h4 := HV.out.w; have h5 := HW.out
        exact ⟨[sk, sv], .inr ⟨_, _, _, _, _, rfl, rfl, fr_at (Nat.le_trans HB3.out.size HB4.out.size) hat rfl, fr_at (Nat.le_trans HB3.out.size HB4.out.size) hat rfl, (rt_ro (HRK.out.mono (fr_bl HB4.out))).mono hmo, (rt_ro HRV.out).mono hmo⟩, by simp [WSs]; omega⟩); clear hwd)
      | (go_at_call 59; refine (sprops59 (ucell_le _ _ ((HM.out.trans (mleU HBX.out)) _ _ HA.out.1))).mono ?_; rintro e wz ⟨rfl, hww⟩; have hww := hww.symm; subst hww)
      | (go_at_call 82; refine (newObjectOld HA.out (HM.out.trans (mleU HBX.out)) HLA.out).mono ?_; rintro e w9 ⟨b9, rfl, hb91, hb92, hg9⟩; have HB91 := Lib.hid hb91; have HB92 := Lib.hid hb92; have HG9 := Lib.hid hg9; clear hb91 hb92 hg9))
    all_goals
      go_ret
      obtain ⟨more, hd, hmw⟩ := HDX.out
      exact ⟨_, _, fun h => absurd h HK6.out, HFIN.out more hmw, rfl, HA.out.object HLO.out (Nat.le_trans HBX.out.size HB91.out) HB92.out (hd.mono (fr_bl HG9.out.below)), bl_trans HBX.out HG9.out.below⟩
  | some qd =>
    rcases HDA.out with ⟨e1, _⟩ | ⟨qa, x1, x2, k1, v1, e1, e2, q1, q2, q3, q4⟩
    · cases e1
    cases e1
    subst e2
    have HQ0 := Lib.hid q1
    have HQ1 := Lib.hid q2
    have HK1 := Lib.hid (show RO m x1 (some k1) from q3)
    have HV1 := Lib.hid (show RO m x2 (some v1) from q4)
    have HWD := Lib.hid (show WS k1 + WS v1 + WS t ≤ 50000 from by have hw := HW.out; simp [WSs] at hw; omega)
    have HMDR := Lib.hid (show MLe m (ucell w.drew) from HM.out)
    clear q1 q2 q3 q4
    go_wp2_with (first | (go_at_call 61; refine (dprops61 (ucell_le _ _ (HM.out _ _ HCA.out))).mono ?_; rintro e wz ⟨rfl, hww⟩; have hww := hww.symm; subst hww))
    refine start_ (n := 8) (S := fun w' => w'.cell? ⟨qa, 0, none⟩ = some x1) (ds := []) (lb 8 0) (by kernel_rfl) rfl rfl (ucell_le _ _ (HM.out _ _ HQ0.out)) (fun hHeld => ?_)
    refine pure_ (i := 0) (N := some 23) (v := ?_) (a' := ?_) (lb 8 1) rfl rfl (by kernel_rfl) (fun _ _ _ h => h) (Or.inl ⟨by rfl, ?_⟩) ?_ ?_
    rotate_left
    · intro w'
      go_simp
      with_reducible rfl
    rotate_left
    · simp only [Act.put, nrA, nrB, nrC, i64_w, i32_w]
      rfl
    refine pure_ (i := 2) (N := some 25) (v := ?_) (a' := ?_) (lb 8 5) rfl rfl (by kernel_rfl) (fun _ _ _ h => h) (Or.inl ⟨by rfl, ?_⟩) ?_ ?_
    rotate_left
    · intro w'
      go_simp
      with_reducible rfl
    rotate_left
    · simp only [Act.put, nrA, nrB, nrC, i64_w, i32_w]
      rfl
    refine pure_ (i := 3) (N := some 26) (v := ?_) (a' := ?_) (lb 8 13) rfl rfl (by kernel_rfl) (fun _ _ _ h => h) (Or.inl ⟨by rfl, ?_⟩) ?_ ?_
    rotate_left
    · intro w'
      go_simp
      with_reducible rfl
    rotate_left
    · simp only [Act.put, nrA, nrB, nrC, i64_w, i32_w]
      rfl
    refine pure_ (i := 4) (N := some 27) (v := ?_) (a' := ?_) (lb 8 29) rfl rfl (by kernel_rfl) (fun _ _ _ h => h) (Or.inl ⟨by rfl, ?_⟩) ?_ ?_
    rotate_left
    · intro w'
      go_simp
      with_reducible rfl
    rotate_left
    · simp only [Act.put, nrA, nrB, nrC, i64_w, i32_w]
      rfl
    refine take_ (i := 5) (N := some 28) (v := ?_) (a' := ?_) (lb 8 61) rfl rfl (by kernel_rfl) (fun _ _ _ h => h) (Or.inl ⟨by rfl, ?_⟩) hHeld ?_ ?_
    rotate_left
    · intro w' s0
      go_simp
      with_reducible rfl
    rotate_left
    · simp only [Act.put, nrA, nrB, nrC, i64_w, i32_w]
      rfl
    refine one_ (i := 1) (N := some 24) (lb 8 63) rfl rfl (by kernel_rfl) (by decide) (fun K hK => ?_)
    refine goes_ Tryz.func52 (by kernel_rfl) rfl #[.iface T u] (by rfl) rfl rfl (by simp only [List.map_toArray, List.map_cons, List.map_nil]; rfl) ?_
    with_reducible refine (HKS.out w.drew HMDR.out).mono ?_
    rintro e w3 ⟨yk, ok, hk, rfl, hrk, hb3d⟩
    refine ⟨_, rfl, ?_⟩
    have hb3 : Below w.heap.size w w3 := bl_trans (Below.refl w.heap.size w).drew hb3d
    have hrkb : RO (fr m w.heap.size w3 none) yk ok := hrk
    refine hK.out _ _ (ucell_le _ _ ((HM.out.trans (mleU hb3)) _ _ HQ0.out)) (fun hHeld => ?_)
    clear hK K
    refine norm_ (a' := ?_) ?_ ?_
    rotate_left
    · show Act.put _ (some 24) _ = _
      simp only [Act.put, nrA, nrB, nrC, i64_w, i32_w]
      rfl
    refine one_ (i := 6) (N := some 29) (lb 8 127) rfl rfl (by kernel_rfl) (by decide) (fun K hK => ?_)
    refine goes_ Tryz.func72 (by kernel_rfl) rfl #[yk, x1] (by rfl) rfl rfl (by simp only [List.map_toArray, List.map_cons, List.map_nil]; rfl) ?_
    with_reducible refine (or_anyN (m := fr m w.heap.size w3 none) (w := w3) (a := ok) (b := some k1) hrkb (HK1.out.mono (fr_old HLO.out)) (fr_leU (HM.out.trans (mleU hb3))) (by have h1 := HWD.out; have h2 := OW_le k1; have h3 := (hk).w; rw [show OWo (some k1) = OW k1 from rfl]; omega)).mono ?_
    rintro e w4 ⟨tk, ok2, hok, rfl, hrk2, hb4, hnnk⟩
    refine ⟨_, rfl, ?_⟩
    refine hK.out _ _ (ucell_le _ _ (((HM.out.trans (mleU hb3)).trans (mleU hb4)) _ _ HQ0.out)) (fun hHeld => ?_)
    clear hK K
    refine norm_ (a' := ?_) ?_ ?_
    rotate_left
    · show Act.put _ (some 29) _ = _
      simp only [Act.put, nrA, nrB, nrC, i64_w, i32_w]
      rfl
    refine pure_ (i := 7) (N := some 7) (v := ?_) (a' := ?_) (lb 8 255) rfl rfl (by kernel_rfl) (fun _ _ _ h => h) (Or.inl ⟨by rfl, ?_⟩) ?_ ?_
    rotate_left
    · intro w'
      go_simp
      with_reducible rfl
    rotate_left
    · simp only [Act.put, nrA, nrB, nrC, i64_w, i32_w]
      rfl
    refine done_ (by kernel_rfl) ?_
    obtain ⟨sk, er⟩ := Option.ne_none_iff_exists'.1 (hnnk (.inr (by simp)))
    subst er
    have HB4 := Lib.hid (bl_trans hb3 hb4)
    have HRK := Lib.hid (show RO (fr m w.heap.size w4 none) tk (some sk) from hrk2.mono (fr_trans HLO.out hb3.size hb4))
    obtain ⟨TK, uk, hs⟩ := (rt_ro HRK.out).shape'
    subst hs
    have HWK := Lib.hid (show WS sk ≤ WS t + WS k1 + 1 from by have h1 := hok.2; have h2 := hk.w; have h3 := ow_rt HRK.out; have h4 := OW_le k1; rw [show OWo (some k1) = OW k1 from rfl] at h1; omega)
    have HMDS := Lib.hid (show MLe m (ucell w4.drew) from (show MLe m (ucell w4) from HM.out.trans (mleU HB4.out)))
    clear hHeld hk hrk hb3d hb3 hok hrk2 hb4 hnnk
    go_wp2_with fail
    refine start_ (n := 8) (S := fun w' => w'.cell? ⟨qa, 1, none⟩ = some x2) (ds := []) (lb 8 0) (by kernel_rfl) rfl rfl (ucell_le _ _ ((HM.out.trans (mleU HB4.out)) _ _ HQ1.out)) (fun hHeld => ?_)
    refine pure_ (i := 0) (N := some 30) (v := ?_) (a' := ?_) (lb 8 1) rfl rfl (by kernel_rfl) (fun _ _ _ h => h) (Or.inl ⟨by rfl, ?_⟩) ?_ ?_
    rotate_left
    · intro w'
      go_simp
      with_reducible rfl
    rotate_left
    · simp only [Act.put, nrA, nrB, nrC, i64_w, i32_w]
      rfl
    refine pure_ (i := 2) (N := some 32) (v := ?_) (a' := ?_) (lb 8 5) rfl rfl (by kernel_rfl) (fun _ _ _ h => h) (Or.inl ⟨by rfl, ?_⟩) ?_ ?_
    rotate_left
    · intro w'
      go_simp
      with_reducible rfl
    rotate_left
    · simp only [Act.put, nrA, nrB, nrC, i64_w, i32_w]
      rfl
    refine pure_ (i := 3) (N := some 33) (v := ?_) (a' := ?_) (lb 8 13) rfl rfl (by kernel_rfl) (fun _ _ _ h => h) (Or.inl ⟨by rfl, ?_⟩) ?_ ?_
    rotate_left
    · intro w'
      go_simp
      with_reducible rfl
    rotate_left
    · simp only [Act.put, nrA, nrB, nrC, i64_w, i32_w]
      rfl
    refine pure_ (i := 4) (N := some 34) (v := ?_) (a' := ?_) (lb 8 29) rfl rfl (by kernel_rfl) (fun _ _ _ h => h) (Or.inl ⟨by rfl, ?_⟩) ?_ ?_
    rotate_left
    · intro w'
      go_simp
      with_reducible rfl
    rotate_left
    · simp only [Act.put, nrA, nrB, nrC, i64_w, i32_w]
      rfl
    refine take_ (i := 5) (N := some 35) (v := ?_) (a' := ?_) (lb 8 61) rfl rfl (by kernel_rfl) (fun _ _ _ h => h) (Or.inl ⟨by rfl, ?_⟩) hHeld ?_ ?_
    rotate_left
    · intro w' s0
      go_simp
      with_reducible rfl
    rotate_left
    · simp only [Act.put, nrA, nrB, nrC, i64_w, i32_w]
      rfl
    refine one_ (i := 1) (N := some 31) (lb 8 63) rfl rfl (by kernel_rfl) (by decide) (fun K hK => ?_)
    refine goes_ Tryz.func53 (by kernel_rfl) rfl #[.iface T u] (by rfl) rfl rfl (by simp only [List.map_toArray, List.map_cons, List.map_nil]; rfl) ?_
    with_reducible refine (HVS.out w4.drew HMDS.out).mono ?_
    rintro e w5 ⟨yv, ov, hv, rfl, hrv, hb5d⟩
    refine ⟨_, rfl, ?_⟩
    have hb5 : Below w4.heap.size w4 w5 := bl_trans (Below.refl w4.heap.size w4).drew hb5d
    have hrvb : RO (fr m w4.heap.size w5 none) yv ov := hrv
    refine hK.out _ _ (ucell_le _ _ ((HM.out.trans (mleU (bl_trans HB4.out hb5))) _ _ HQ1.out)) (fun hHeld => ?_)
    clear hK K
    refine norm_ (a' := ?_) ?_ ?_
    rotate_left
    · show Act.put _ (some 31) _ = _
      simp only [Act.put, nrA, nrB, nrC, i64_w, i32_w]
      rfl
    refine one_ (i := 6) (N := some 36) (lb 8 127) rfl rfl (by kernel_rfl) (by decide) (fun K hK => ?_)
    refine goes_ Tryz.func72 (by kernel_rfl) rfl #[yv, x2] (by rfl) rfl rfl (by simp only [List.map_toArray, List.map_cons, List.map_nil]; rfl) ?_
    with_reducible refine (or_anyN (m := fr m w4.heap.size w5 none) (w := w5) (a := ov) (b := some v1) hrvb (HV1.out.mono (fr_old (HLO.out.mono HB4.out.size))) (fr_leU (HM.out.trans (mleU (bl_trans HB4.out hb5)))) (by have h1 := HWD.out; have h2 := OW_le v1; have h3 := (hv).w; rw [show OWo (some v1) = OW v1 from rfl]; omega)).mono ?_
    rintro e w6 ⟨tv, ov2, hov, rfl, hrv2, hb6, hnnv⟩
    refine ⟨_, rfl, ?_⟩
    refine hK.out _ _ (ucell_le _ _ (((HM.out.trans (mleU (bl_trans HB4.out hb5))).trans (mleU hb6)) _ _ HQ1.out)) (fun hHeld => ?_)
    clear hK K
    refine norm_ (a' := ?_) ?_ ?_
    rotate_left
    · show Act.put _ (some 36) _ = _
      simp only [Act.put, nrA, nrB, nrC, i64_w, i32_w]
      rfl
    refine pure_ (i := 7) (N := some 8) (v := ?_) (a' := ?_) (lb 8 255) rfl rfl (by kernel_rfl) (fun _ _ _ h => h) (Or.inl ⟨by rfl, ?_⟩) ?_ ?_
    rotate_left
    · intro w'
      go_simp
      with_reducible rfl
    rotate_left
    · simp only [Act.put, nrA, nrB, nrC, i64_w, i32_w]
      rfl
    refine done_ (by kernel_rfl) ?_
    obtain ⟨sv, er⟩ := Option.ne_none_iff_exists'.1 (hnnv (.inr (by simp)))
    subst er
    have HB46 := Lib.hid (bl_trans hb5 hb6)
    have HBX := Lib.hid (bl_trans HB4.out HB46.out)
    have HRV := Lib.hid (show RO (fr m w.heap.size w6 none) tv (some sv) from (hrv2.mono (fr_trans (HLO.out.mono HB4.out.size) hb5.size hb6)).mono (fr_lower HLO.out HB4.out.size (fun _ _ _ => rfl)))
    obtain ⟨TV, uv, hs⟩ := (rt_ro HRV.out).shape'
    subst hs
    have HWV := Lib.hid (show WS sv ≤ WS t + WS v1 + 1 from by have h1 := hov.2; have h2 := hv.w; have h3 := ow_rt HRV.out; have h4 := OW_le v1; rw [show OWo (some v1) = OW v1 from rfl] at h1; omega)
    clear hHeld hv hrv hb5d hb5 hov hrv2 hb6 hnnv
    go_wp2_with (first
      | (go_at_call 83; refine (ndp_any TK TV uk uv _).mono ?_; rintro e wd ⟨rfl, hwd⟩; have HDX := Lib.hid (show ∃ more, DyM (fr m w.heap.size wd none) (.pointer (some ⟨w6.heap.size, 0, none⟩)) more ∧ WSs more ≤ 300000 from by
        have hat : wd.heap[w6.heap.size]? = some (.cells #[.iface TK uk, .iface TV uv] 107 (0, 0)) := by rw [hwd]; exact al_new rfl
        have hmo : MLe (fr m w.heap.size w6 none) (fr m w.heap.size wd none) := by rw [hwd]; exact fr_alloc _
        have h1 := HWK.out; have h2 := HWV.out; have h5 := HWD.out
        exact ⟨[sk, sv], .inr ⟨_, _, _, _, _, rfl, rfl, fr_at HBX.out.size hat rfl, fr_at HBX.out.size hat rfl, (rt_ro (HRK.out.mono (fr_bl HB46.out))).mono hmo, (rt_ro HRV.out).mono hmo⟩, by simp [WSs]; omega⟩); have HBX := Lib.hid (show Below w.heap.size w wd from by rw [hwd]; exact bl_alloc HBX.out _); clear hwd)
      | (go_at_call 59; refine (sprops59 (ucell_le _ _ ((HM.out.trans (mleU HBX.out)) _ _ HA.out.1))).mono ?_; rintro e wz ⟨rfl, hww⟩; have hww := hww.symm; subst hww)
      | (go_at_call 82; refine (newObjectOld HA.out (HM.out.trans (mleU HBX.out)) HLA.out).mono ?_; rintro e w9 ⟨b9, rfl, hb91, hb92, hg9⟩; have HB91 := Lib.hid hb91; have HB92 := Lib.hid hb92; have HG9 := Lib.hid hg9; clear hb91 hb92 hg9))
    go_ret
    obtain ⟨more, hd, hmw⟩ := HDX.out
    exact ⟨_, _, fun h => absurd h HK6.out, HFIN.out more hmw, rfl, HA.out.object HLO.out (Nat.le_trans HBX.out.size HB91.out) HB92.out (hd.mono (fr_bl HG9.out.below)), bl_trans HBX.out HG9.out.below⟩
theorem merge_any49 {m : Mem} {w : World} {x y : Value} {s t : ST} (hx : RT m (.iface 80 x) s) (hy : RT m y t) (hna : Na t) (hm : MLe m (ucell w)) (hw : WS s + WS t ≤ 50000) : Calls Tryz.prog 49 #[x, y] w (MgW m s t w) := by
  obtain ⟨T, u, rfl⟩ := hy.shape'
  by_cases h : T = 80
  · subst h; exact merge_obj hx hy hm (by omega)
  · exact merge_oth hx hy h hna hm hw
end Go.Proofs.YtaglgokeejjagaaGreat
