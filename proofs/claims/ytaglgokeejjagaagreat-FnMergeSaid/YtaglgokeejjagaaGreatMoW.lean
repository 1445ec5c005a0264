/- Merging two object types. -/
import Derived.Test.YtaglgokeejjagaaGreatMoS
import Derived.Test.YtaglgokeejjagaaGreatWLast
import Derived.Deep.CutRange
namespace Go.Proofs.YtaglgokeejjagaaGreat
set_option linter.unusedVariables false
set_option linter.unusedSimpArgs false
open Go.RowKit Go.Sort Go.Maps Go.Proofs.YtaglgokeejjagaaGreatW.PrintLast

set_option maxHeartbeats 16000000 in
set_option maxRecDepth 100000 in
theorem mo_all {m : Mem} {w : World} {ba bb : Nat} {PA PB : List Pr} {aa ab : Option Addr} {ca cb : Nat} {psa psb : List Nat} {xsa xsb : List Value} {ma mb : List ST} {da db : Option Addr} (IH : Hid (∀ s t, (∃ p ∈ PA, p.2 = s) → (∃ p ∈ PB, p.2 = t) → MoC s t)) (IHD : Hid (∀ s t, s ∈ ma → t ∈ mb → MoC s t)) (hA : ObM m ba PA aa ca psa xsa) (hB : ObM m bb PB ab cb psb xsb) (hda : m ⟨ba, 1, none⟩ = some (.pointer da)) (hdb : m ⟨bb, 1, none⟩ = some (.pointer db)) (hDA : DyM m (.pointer da) ma) (hDB : DyM m (.pointer db) mb) (hm : MLe m (ucell w)) (hw : PW PA + PW PB + WSs ma + WSs mb ≤ 100000) :
    Calls Tryz.prog 93 #[.pointer (some ⟨ba, 0, none⟩), .pointer (some ⟨bb, 0, none⟩)] w (MoQ m PA ma PB mb w) := by
  have HA := Lib.hid hA
  have HB := Lib.hid hB
  have HM := Lib.hid hm
  have HW := Lib.hid hw
  have HDA := Lib.hid hDA
  have HDB := Lib.hid hDB
  have HCA := Lib.hid hda
  have HCB := Lib.hid hdb
  have HLO := Lib.hid (lo_of_mle (hm.trans ucell_le))
  have dca := ucell_le _ _ (hm _ _ hda)
  have dcb := ucell_le _ _ (hm _ _ hdb)
  obtain ⟨lka1, lka2⟩ := hA.2.1
  obtain ⟨lkb1, lkb2⟩ := hB.2.1
  have HLA := Lib.hid (show PA.length ≤ 100000 from by have := pw_len PA; omega)
  have HLB := Lib.hid (show PB.length ≤ 100000 from by have := pw_len PB; omega)
  clear hA hB hm hw hDA hDB hda hdb
  have hmm := @run_makeMap Tryz.prog
  go_enter Tryz.func93, Tryz.ntmps93
  obtain ⟨cc, hcc⟩ : ∃ cc, cc = (da.isSome && db.isSome) := ⟨_, rfl⟩
  have HCC := Lib.hid hcc
  clear hcc
  go_upto_region 2 with fail
  go_cut [36] from 25 to 36 (fun c wx => c = .bool cc ∧ w = wx)
  case first =>
    cases da <;> cases db
    all_goals
      have h := HCC.out
      simp at h
      subst h
      clear HCC
      go_wp2_with fail
      go_meet
      exact ⟨rfl, rfl⟩
  case rest =>
  obtain ⟨rfl, hwc⟩ := hcut
  subst hwc
  go_upto_if 36 with fail
  go_cut [5] from 37 to 112 (fun d wx => ∃ (dd : Option Addr) (more : List ST), d = .pointer dd ∧ Hid (DyM (fr m w.heap.size wx none) (.pointer dd) more ∧ MoD ma mb more ∧ Below w.heap.size w wx))
  case first =>
    rcases HDA.out with ⟨e1, e2⟩ | ⟨qa, x1, x2, k1, v1, e1, e2, q1, q2, q3, q4⟩
    · cases e1
      rcases HDB.out with ⟨f1, f2⟩ | ⟨qb, y1, y2, k2, v2, f1, f2, _, _, _, _⟩
      · cases f1
        have HX := Lib.hid (show DyM (fr m w.heap.size w none) _ mb ∧ MoD ma mb mb ∧ Below w.heap.size w w from ⟨HDB.out.mono (fr_old HLO.out), moD_n HDA.out HDB.out, Below.refl _ _⟩)
        clear e2 f2
        have h := HCC.out
        simp at h
        subst h
        clear HCC
        go_wp2_with fail
        go_meet
        exact ⟨_, mb, rfl, HX.out⟩
      · cases f1
        have HX := Lib.hid (show DyM (fr m w.heap.size w none) _ mb ∧ MoD ma mb mb ∧ Below w.heap.size w w from ⟨HDB.out.mono (fr_old HLO.out), moD_b HDA.out HDB.out, Below.refl _ _⟩)
        clear e2 f2
        have h := HCC.out
        simp at h
        subst h
        clear HCC
        go_wp2_with fail
        go_meet
        exact ⟨_, mb, rfl, HX.out⟩
    · cases e1
      rcases HDB.out with ⟨f1, f2⟩ | ⟨qb, y1, y2, k2, v2, f1, f2, q5, q6, q7, q8⟩
      · cases f1
        have HX := Lib.hid (show DyM (fr m w.heap.size w none) _ ma ∧ MoD ma mb ma ∧ Below w.heap.size w w from ⟨HDA.out.mono (fr_old HLO.out), moD_a HDA.out HDB.out, Below.refl _ _⟩)
        clear e2 f2 q1 q2 q3 q4
        have h := HCC.out
        simp at h
        subst h
        clear HCC
        go_wp2_with fail
        go_meet
        exact ⟨_, ma, rfl, HX.out⟩
      · cases f1
        subst e2 f2
        have h := HCC.out
        simp at h
        subst h
        clear HCC
        obtain ⟨TD, x3, rfl⟩ := q4.shape'
        obtain ⟨UD, y3, rfl⟩ := q8.shape'
        have HQA0 := Lib.hid q1
        have HQA1 := Lib.hid q2
        have HQB0 := Lib.hid q5
        have HQB1 := Lib.hid q6
        have HK1 := Lib.hid (show RO m x1 (some k1) from q3)
        have HK2 := Lib.hid (show RO m y1 (some k2) from q7)
        have HV1 := Lib.hid (show RO m (.iface TD x3) (some v1) from q4)
        have HV2 := Lib.hid (show RO m (.iface UD y3) (some v2) from q8)
        have HWD := Lib.hid (show WS k1 + WS v1 + WS k2 + WS v2 ≤ 100000 from by have hw := HW.out; simp [WSs] at hw; omega)
        have HMDR := Lib.hid (show MLe m (ucell w.drew) from HM.out)
        clear q1 q2 q3 q4 q5 q6 q7 q8 dca dcb
        go_wp2_with fail
        refine start_ (n := 16) (S := fun w' => w'.cell? ⟨ba, 1, none⟩ = some (.pointer (some ⟨qa, 0, none⟩)) ∧ w'.cell? ⟨bb, 1, none⟩ = some (.pointer (some ⟨qb, 0, none⟩)) ∧ w'.cell? ⟨qa, 0, none⟩ = some x1 ∧ w'.cell? ⟨qb, 0, none⟩ = some y1) (ds := []) (lb 16 0) (by kernel_rfl) rfl rfl ⟨ucell_le _ _ (HM.out _ _ HCA.out), ucell_le _ _ (HM.out _ _ HCB.out), ucell_le _ _ (HM.out _ _ HQA0.out), ucell_le _ _ (HM.out _ _ HQB0.out)⟩ (fun hHeld => ?_)
        refine pure_ (i := 0) (N := some 37) (v := ?_) (a' := ?_) (lb 16 1) rfl rfl (by kernel_rfl) (fun _ _ _ h => h) (Or.inl ⟨by rfl, ?_⟩) ?_ ?_
        rotate_left
        · intro w'
          go_simp
          with_reducible rfl
        rotate_left
        · simp only [Act.put, nrA, nrB, nrC, i64_w, i32_w]
          rfl
        refine pure_ (i := 1) (N := some 38) (v := ?_) (a' := ?_) (lb 16 3) rfl rfl (by kernel_rfl) (fun _ _ _ h => h) (Or.inl ⟨by rfl, ?_⟩) ?_ ?_
        rotate_left
        · intro w'
          go_simp
          with_reducible rfl
        rotate_left
        · simp only [Act.put, nrA, nrB, nrC, i64_w, i32_w]
          rfl
        refine pure_ (i := 2) (N := some 39) (v := ?_) (a' := ?_) (lb 16 7) rfl rfl (by kernel_rfl) (fun _ _ _ h => h) (Or.inl ⟨by rfl, ?_⟩) ?_ ?_
        rotate_left
        · intro w'
          go_simp
          with_reducible rfl
        rotate_left
        · simp only [Act.put, nrA, nrB, nrC, i64_w, i32_w]
          rfl
        refine pure_ (i := 7) (N := some 44) (v := ?_) (a' := ?_) (lb 16 135) rfl rfl (by kernel_rfl) (fun _ _ _ h => h) (Or.inl ⟨by rfl, ?_⟩) ?_ ?_
        rotate_left
        · intro w'
          go_simp
          with_reducible rfl
        rotate_left
        · simp only [Act.put, nrA, nrB, nrC, i64_w, i32_w]
          rfl
        refine pure_ (i := 8) (N := some 45) (v := ?_) (a' := ?_) (lb 16 391) rfl rfl (by kernel_rfl) (fun _ _ _ h => h) (Or.inl ⟨by rfl, ?_⟩) ?_ ?_
        rotate_left
        · intro w'
          go_simp
          with_reducible rfl
        rotate_left
        · simp only [Act.put, nrA, nrB, nrC, i64_w, i32_w]
          rfl
        refine pure_ (i := 9) (N := some 46) (v := ?_) (a' := ?_) (lb 16 903) rfl rfl (by kernel_rfl) (fun _ _ _ h => h) (Or.inl ⟨by rfl, ?_⟩) ?_ ?_
        rotate_left
        · intro w'
          go_simp
          with_reducible rfl
        rotate_left
        · simp only [Act.put, nrA, nrB, nrC, i64_w, i32_w]
          rfl
        refine take_ (i := 3) (N := some 40) (v := ?_) (a' := ?_) (lb 16 911) rfl rfl (by kernel_rfl) (fun _ _ _ h => h) (Or.inl ⟨by rfl, ?_⟩) hHeld ?_ ?_
        rotate_left
        · rintro w' ⟨s0, s1, s2, s3⟩
          go_simp
          with_reducible rfl
        rotate_left
        · simp only [Act.put, nrA, nrB, nrC, i64_w, i32_w]
          rfl
        refine pure_ (i := 4) (N := some 41) (v := ?_) (a' := ?_) (lb 16 927) rfl rfl (by kernel_rfl) (fun _ _ _ h => h) (Or.inl ⟨by rfl, ?_⟩) ?_ ?_
        rotate_left
        · intro w'
          go_simp
          with_reducible rfl
        rotate_left
        · simp only [Act.put, nrA, nrB, nrC, i64_w, i32_w]
          rfl
        refine pure_ (i := 5) (N := some 42) (v := ?_) (a' := ?_) (lb 16 959) rfl rfl (by kernel_rfl) (fun _ _ _ h => h) (Or.inl ⟨by rfl, ?_⟩) ?_ ?_
        rotate_left
        · intro w'
          go_simp
          with_reducible rfl
        rotate_left
        · simp only [Act.put, nrA, nrB, nrC, i64_w, i32_w]
          rfl
        refine take_ (i := 6) (N := some 43) (v := ?_) (a' := ?_) (lb 16 1023) rfl rfl (by kernel_rfl) (fun _ _ _ h => h) (Or.inl ⟨by rfl, ?_⟩) hHeld ?_ ?_
        rotate_left
        · rintro w' ⟨s0, s1, s2, s3⟩
          go_simp
          with_reducible rfl
        rotate_left
        · simp only [Act.put, nrA, nrB, nrC, i64_w, i32_w]
          rfl
        refine take_ (i := 10) (N := some 47) (v := ?_) (a' := ?_) (lb 16 2047) rfl rfl (by kernel_rfl) (fun _ _ _ h => h) (Or.inl ⟨by rfl, ?_⟩) hHeld ?_ ?_
        rotate_left
        · rintro w' ⟨s0, s1, s2, s3⟩
          go_simp
          with_reducible rfl
        rotate_left
        · simp only [Act.put, nrA, nrB, nrC, i64_w, i32_w]
          rfl
        refine pure_ (i := 11) (N := some 48) (v := ?_) (a' := ?_) (lb 16 4095) rfl rfl (by kernel_rfl) (fun _ _ _ h => h) (Or.inl ⟨by rfl, ?_⟩) ?_ ?_
        rotate_left
        · intro w'
          go_simp
          with_reducible rfl
        rotate_left
        · simp only [Act.put, nrA, nrB, nrC, i64_w, i32_w]
          rfl
        refine pure_ (i := 12) (N := some 49) (v := ?_) (a' := ?_) (lb 16 8191) rfl rfl (by kernel_rfl) (fun _ _ _ h => h) (Or.inl ⟨by rfl, ?_⟩) ?_ ?_
        rotate_left
        · intro w'
          go_simp
          with_reducible rfl
        rotate_left
        · simp only [Act.put, nrA, nrB, nrC, i64_w, i32_w]
          rfl
        refine take_ (i := 13) (N := some 50) (v := ?_) (a' := ?_) (lb 16 16383) rfl rfl (by kernel_rfl) (fun _ _ _ h => h) (Or.inl ⟨by rfl, ?_⟩) hHeld ?_ ?_
        rotate_left
        · rintro w' ⟨s0, s1, s2, s3⟩
          go_simp
          with_reducible rfl
        rotate_left
        · simp only [Act.put, nrA, nrB, nrC, i64_w, i32_w]
          rfl
        refine one_ (i := 14) (N := some 51) (lb 16 32767) rfl rfl (by kernel_rfl) (by decide) (fun K hK => ?_)
        refine goes_ Tryz.func72 (by kernel_rfl) rfl #[x1, y1] (by rfl) rfl rfl (by simp only [List.map_toArray, List.map_cons, List.map_nil]; rfl) ?_
        with_reducible refine (or_anyN (m := m) (w := w.drew) (a := some k1) (b := some k2) HK1.out HK2.out HMDR.out (by have h1 := HWD.out; have h2 := OW_le k1; have h3 := OW_le k2; rw [show OWo (some k1) = OW k1 from rfl, show OWo (some k2) = OW k2 from rfl]; omega)).mono ?_
        rintro e w3 ⟨tk, ok, hok, rfl, hrk, hb3d, hnnk⟩
        refine ⟨_, rfl, ?_⟩
        have hb3 : Below w.heap.size w w3 := bl_trans (Below.refl w.heap.size w).drew hb3d
        refine hK.out _ _ ⟨ucell_le _ _ ((HM.out.trans (mleU hb3)) _ _ HCA.out), ucell_le _ _ ((HM.out.trans (mleU hb3)) _ _ HCB.out), ucell_le _ _ ((HM.out.trans (mleU hb3)) _ _ HQA0.out), ucell_le _ _ ((HM.out.trans (mleU hb3)) _ _ HQB0.out)⟩ (fun hHeld => ?_)
        clear hK K
        refine norm_ (a' := ?_) ?_ ?_
        rotate_left
        · show Act.put _ (some 51) _ = _
          simp only [Act.put, nrA, nrB, nrC, i64_w, i32_w]
          rfl
        refine pure_ (i := 15) (N := some 6) (v := ?_) (a' := ?_) (lb 16 65535) rfl rfl (by kernel_rfl) (fun _ _ _ h => h) (Or.inl ⟨by rfl, ?_⟩) ?_ ?_
        rotate_left
        · intro w'
          go_simp
          with_reducible rfl
        rotate_left
        · simp only [Act.put, nrA, nrB, nrC, i64_w, i32_w]
          rfl
        refine done_ (by kernel_rfl) ?_
        obtain ⟨rk, er⟩ := Option.ne_none_iff_exists'.1 (hnnk (.inl (by simp)))
        subst er
        have HRK := Lib.hid (show RT (fr m w.heap.size w3 none) tk rk from hrk)
        obtain ⟨AK1, uk, hs⟩ := HRK.out.shape'
        subst hs
        have HOK := Lib.hid (or_ws hok rfl HRK.out.nt)
        have HB3 := Lib.hid hb3
        have HM3 := Lib.hid (HM.out.trans (mleU hb3))
        have da := ucell_le _ _ (HM3.out _ _ HCA.out)
        have db := ucell_le _ _ (HM3.out _ _ HCB.out)
        have dc := ucell_le _ _ (HM3.out _ _ HQA1.out)
        have dd := ucell_le _ _ (HM3.out _ _ HQB1.out)
        have HMDS := Lib.hid (show MLe m (ucell w3.drew) from HM3.out)
        clear hHeld hok hrk hb3d hnnk hb3
        by_cases hT : TD = 80
        · subst hT
          by_cases hU : UD = 80
          · subst hU
            have HRC := Lib.hid (IHD.out v1 v2 (by simp) (by simp) m x3 y3 w3 HV1.out HV2.out HM3.out (by have := HWD.out; omega))
            go_wp2_with (first
              | (go_at_call 93; refine HRC.out.mono ?_; rintro e w5 ⟨p5, rv, hst, rfl, hr, hb5⟩; have HB5 := Lib.hid (bl_trans HB3.out hb5); have HRV := Lib.hid (show RT (fr m w.heap.size w5 none) (.iface 80 (.pointer p5)) rv from hr.mono (fr_lower HLO.out HB3.out.size (fun _ _ _ => rfl))); have HOV := Lib.hid hst.w; have HFK := Lib.hid (HRK.out.mono (fr_bl hb5)); clear hst hr hb5)
              | (go_at_call 83; refine (ndp_any AK1 _ uk _ _).mono ?_; rintro e wd ⟨rfl, hwd⟩; have HWX := Lib.hid hwd; have HBW := Lib.hid (show Below w.heap.size w wd from by rw [hwd]; exact bl_alloc HB5.out _); clear hwd))
            have HX := Lib.hid (show DyM (fr m w.heap.size wd none) (.pointer (some ⟨w5.heap.size, 0, none⟩)) [rk, rv] ∧ MoD [k1, v1] [k2, v2] [rk, rv] ∧ Below w.heap.size w wd from by
              have hz := HWX.out
              have hat : wd.heap[w5.heap.size]? = some (.cells #[.iface AK1 uk, .iface 80 (.pointer p5)] 107 (0, 0)) := by rw [hz]; exact al_new rfl
              have hmo : MLe (fr m w.heap.size w5 none) (fr m w.heap.size wd none) := by rw [hz]; exact fr_alloc _
              exact ⟨.inr ⟨_, _, _, _, _, rfl, rfl, fr_at HB5.out.size hat rfl, fr_at HB5.out.size hat rfl, HFK.out.mono hmo, HRV.out.mono hmo⟩, ⟨fun h => by simp at h, fun h => by simp at h, by have h1 := HOK.out; have h2 := HOV.out; simp [WSs]; omega⟩, HBW.out⟩)
            go_meet
            exact ⟨_, [rk, rv], rfl, HX.out⟩
          · have HUD := Lib.hid hU
            clear hU
            go_wp2_with fail
            rw [assert80 HUD.out]
            go_wp2_with fail
            clear da db dc dd
            have HV1 := Lib.hid (show RO m (.iface 80 x3) (some v1) from HV1.out)
            have HV2 := Lib.hid (show RO m (.iface UD y3) (some v2) from HV2.out)
            refine start_ (n := 16) (S := fun w' => w'.cell? ⟨ba, 1, none⟩ = some (.pointer (some ⟨qa, 0, none⟩)) ∧ w'.cell? ⟨bb, 1, none⟩ = some (.pointer (some ⟨qb, 0, none⟩)) ∧ w'.cell? ⟨qa, 1, none⟩ = some (.iface 80 x3) ∧ w'.cell? ⟨qb, 1, none⟩ = some (.iface UD y3)) (ds := []) (lb 16 0) (by kernel_rfl) rfl rfl ⟨ucell_le _ _ (HM3.out _ _ HCA.out), ucell_le _ _ (HM3.out _ _ HCB.out), ucell_le _ _ (HM3.out _ _ HQA1.out), ucell_le _ _ (HM3.out _ _ HQB1.out)⟩ (fun hHeld => ?_)
            refine pure_ (i := 0) (N := some 82) (v := ?_) (a' := ?_) (lb 16 1) rfl rfl (by kernel_rfl) (fun _ _ _ h => h) (Or.inl ⟨by rfl, ?_⟩) ?_ ?_
            rotate_left
            · intro w'
              go_simp
              with_reducible rfl
            rotate_left
            · simp only [Act.put, nrA, nrB, nrC, i64_w, i32_w]
              rfl
            refine pure_ (i := 1) (N := some 83) (v := ?_) (a' := ?_) (lb 16 3) rfl rfl (by kernel_rfl) (fun _ _ _ h => h) (Or.inl ⟨by rfl, ?_⟩) ?_ ?_
            rotate_left
            · intro w'
              go_simp
              with_reducible rfl
            rotate_left
            · simp only [Act.put, nrA, nrB, nrC, i64_w, i32_w]
              rfl
            refine pure_ (i := 2) (N := some 84) (v := ?_) (a' := ?_) (lb 16 7) rfl rfl (by kernel_rfl) (fun _ _ _ h => h) (Or.inl ⟨by rfl, ?_⟩) ?_ ?_
            rotate_left
            · intro w'
              go_simp
              with_reducible rfl
            rotate_left
            · simp only [Act.put, nrA, nrB, nrC, i64_w, i32_w]
              rfl
            refine pure_ (i := 7) (N := some 89) (v := ?_) (a' := ?_) (lb 16 135) rfl rfl (by kernel_rfl) (fun _ _ _ h => h) (Or.inl ⟨by rfl, ?_⟩) ?_ ?_
            rotate_left
            · intro w'
              go_simp
              with_reducible rfl
            rotate_left
            · simp only [Act.put, nrA, nrB, nrC, i64_w, i32_w]
              rfl
            refine pure_ (i := 8) (N := some 90) (v := ?_) (a' := ?_) (lb 16 391) rfl rfl (by kernel_rfl) (fun _ _ _ h => h) (Or.inl ⟨by rfl, ?_⟩) ?_ ?_
            rotate_left
            · intro w'
              go_simp
              with_reducible rfl
            rotate_left
            · simp only [Act.put, nrA, nrB, nrC, i64_w, i32_w]
              rfl
            refine pure_ (i := 9) (N := some 91) (v := ?_) (a' := ?_) (lb 16 903) rfl rfl (by kernel_rfl) (fun _ _ _ h => h) (Or.inl ⟨by rfl, ?_⟩) ?_ ?_
            rotate_left
            · intro w'
              go_simp
              with_reducible rfl
            rotate_left
            · simp only [Act.put, nrA, nrB, nrC, i64_w, i32_w]
              rfl
            refine take_ (i := 3) (N := some 85) (v := ?_) (a' := ?_) (lb 16 911) rfl rfl (by kernel_rfl) (fun _ _ _ h => h) (Or.inl ⟨by rfl, ?_⟩) hHeld ?_ ?_
            rotate_left
            · rintro w' ⟨s0, s1, s2, s3⟩
              go_simp
              with_reducible rfl
            rotate_left
            · simp only [Act.put, nrA, nrB, nrC, i64_w, i32_w]
              rfl
            refine pure_ (i := 4) (N := some 86) (v := ?_) (a' := ?_) (lb 16 927) rfl rfl (by kernel_rfl) (fun _ _ _ h => h) (Or.inl ⟨by rfl, ?_⟩) ?_ ?_
            rotate_left
            · intro w'
              go_simp
              with_reducible rfl
            rotate_left
            · simp only [Act.put, nrA, nrB, nrC, i64_w, i32_w]
              rfl
            refine pure_ (i := 5) (N := some 87) (v := ?_) (a' := ?_) (lb 16 959) rfl rfl (by kernel_rfl) (fun _ _ _ h => h) (Or.inl ⟨by rfl, ?_⟩) ?_ ?_
            rotate_left
            · intro w'
              go_simp
              with_reducible rfl
            rotate_left
            · simp only [Act.put, nrA, nrB, nrC, i64_w, i32_w]
              rfl
            refine take_ (i := 6) (N := some 88) (v := ?_) (a' := ?_) (lb 16 1023) rfl rfl (by kernel_rfl) (fun _ _ _ h => h) (Or.inl ⟨by rfl, ?_⟩) hHeld ?_ ?_
            rotate_left
            · rintro w' ⟨s0, s1, s2, s3⟩
              go_simp
              with_reducible rfl
            rotate_left
            · simp only [Act.put, nrA, nrB, nrC, i64_w, i32_w]
              rfl
            refine take_ (i := 10) (N := some 92) (v := ?_) (a' := ?_) (lb 16 2047) rfl rfl (by kernel_rfl) (fun _ _ _ h => h) (Or.inl ⟨by rfl, ?_⟩) hHeld ?_ ?_
            rotate_left
            · rintro w' ⟨s0, s1, s2, s3⟩
              go_simp
              with_reducible rfl
            rotate_left
            · simp only [Act.put, nrA, nrB, nrC, i64_w, i32_w]
              rfl
            refine pure_ (i := 11) (N := some 93) (v := ?_) (a' := ?_) (lb 16 4095) rfl rfl (by kernel_rfl) (fun _ _ _ h => h) (Or.inl ⟨by rfl, ?_⟩) ?_ ?_
            rotate_left
            · intro w'
              go_simp
              with_reducible rfl
            rotate_left
            · simp only [Act.put, nrA, nrB, nrC, i64_w, i32_w]
              rfl
            refine pure_ (i := 12) (N := some 94) (v := ?_) (a' := ?_) (lb 16 8191) rfl rfl (by kernel_rfl) (fun _ _ _ h => h) (Or.inl ⟨by rfl, ?_⟩) ?_ ?_
            rotate_left
            · intro w'
              go_simp
              with_reducible rfl
            rotate_left
            · simp only [Act.put, nrA, nrB, nrC, i64_w, i32_w]
              rfl
            refine take_ (i := 13) (N := some 95) (v := ?_) (a' := ?_) (lb 16 16383) rfl rfl (by kernel_rfl) (fun _ _ _ h => h) (Or.inl ⟨by rfl, ?_⟩) hHeld ?_ ?_
            rotate_left
            · rintro w' ⟨s0, s1, s2, s3⟩
              go_simp
              with_reducible rfl
            rotate_left
            · simp only [Act.put, nrA, nrB, nrC, i64_w, i32_w]
              rfl
            refine one_ (i := 14) (N := some 96) (lb 16 32767) rfl rfl (by kernel_rfl) (by decide) (fun K hK => ?_)
            refine goes_ Tryz.func72 (by kernel_rfl) rfl #[.iface 80 x3, .iface UD y3] (by rfl) rfl rfl (by simp only [List.map_toArray, List.map_cons, List.map_nil]; rfl) ?_
            with_reducible refine (or_anyN (m := m) (w := w3.drew) (a := some v1) (b := some v2) HV1.out HV2.out HMDS.out (by have h1 := HWD.out; have h2 := OW_le v1; have h3 := OW_le v2; rw [show OWo (some v1) = OW v1 from rfl, show OWo (some v2) = OW v2 from rfl]; omega)).mono ?_
            rintro e w5 ⟨tv, ov, hov, rfl, hrv, hb5d, hnnv⟩
            refine ⟨_, rfl, ?_⟩
            have hb5 : Below w3.heap.size w3 w5 := bl_trans (Below.refl w3.heap.size w3).drew hb5d
            refine hK.out _ _ ⟨ucell_le _ _ ((HM3.out.trans (mleU hb5)) _ _ HCA.out), ucell_le _ _ ((HM3.out.trans (mleU hb5)) _ _ HCB.out), ucell_le _ _ ((HM3.out.trans (mleU hb5)) _ _ HQA1.out), ucell_le _ _ ((HM3.out.trans (mleU hb5)) _ _ HQB1.out)⟩ (fun hHeld => ?_)
            clear hK K
            refine norm_ (a' := ?_) ?_ ?_
            rotate_left
            · show Act.put _ (some 96) _ = _
              simp only [Act.put, nrA, nrB, nrC, i64_w, i32_w]
              rfl
            refine pure_ (i := 15) (N := some 7) (v := ?_) (a' := ?_) (lb 16 65535) rfl rfl (by kernel_rfl) (fun _ _ _ h => h) (Or.inl ⟨by rfl, ?_⟩) ?_ ?_
            rotate_left
            · intro w'
              go_simp
              with_reducible rfl
            rotate_left
            · simp only [Act.put, nrA, nrB, nrC, i64_w, i32_w]
              rfl
            refine done_ (by kernel_rfl) ?_
            obtain ⟨rv, er⟩ := Option.ne_none_iff_exists'.1 (hnnv (.inl (by simp)))
            subst er
            have HRV := Lib.hid (show RT (fr m w.heap.size w5 none) tv rv from RT.mono (fr_lower HLO.out HB3.out.size (fun _ _ _ => rfl)) hrv)
            obtain ⟨AV1, uv, hs⟩ := HRV.out.shape'
            subst hs
            have HOV := Lib.hid (or_ws hov rfl HRV.out.nt)
            have HB5 := Lib.hid (bl_trans HB3.out hb5)
            have HFK := Lib.hid (HRK.out.mono (fr_bl hb5))
            clear hHeld hov hrv hb5d hnnv hb5
            go_wp2_with (first | (go_at_call 83; refine (ndp_any AK1 _ uk _ _).mono ?_; rintro e wd ⟨rfl, hwd⟩; have HWX := Lib.hid hwd; have HBW := Lib.hid (show Below w.heap.size w wd from by rw [hwd]; exact bl_alloc HB5.out _); clear hwd))
            have HX := Lib.hid (show DyM (fr m w.heap.size wd none) (.pointer (some ⟨w5.heap.size, 0, none⟩)) [rk, rv] ∧ MoD [k1, v1] [k2, v2] [rk, rv] ∧ Below w.heap.size w wd from by
              have hz := HWX.out
              have hat : wd.heap[w5.heap.size]? = some (.cells #[.iface AK1 uk, .iface AV1 uv] 107 (0, 0)) := by rw [hz]; exact al_new rfl
              have hmo : MLe (fr m w.heap.size w5 none) (fr m w.heap.size wd none) := by rw [hz]; exact fr_alloc _
              exact ⟨.inr ⟨_, _, _, _, _, rfl, rfl, fr_at HB5.out.size hat rfl, fr_at HB5.out.size hat rfl, HFK.out.mono hmo, HRV.out.mono hmo⟩, ⟨fun h => by simp at h, fun h => by simp at h, by have h1 := HOK.out; have h2 := HOV.out; simp [WSs]; omega⟩, HBW.out⟩)
            go_meet
            exact ⟨_, [rk, rv], rfl, HX.out⟩
        · have HTD := Lib.hid hT
          clear hT
          by_cases hU : UD = 80
          · subst hU
            go_wp2_with fail
            rw [assert80 HTD.out]
            go_wp2_with fail
            clear da db dc dd
            have HV1 := Lib.hid (show RO m (.iface TD x3) (some v1) from HV1.out)
            have HV2 := Lib.hid (show RO m (.iface 80 y3) (some v2) from HV2.out)
            refine start_ (n := 16) (S := fun w' => w'.cell? ⟨ba, 1, none⟩ = some (.pointer (some ⟨qa, 0, none⟩)) ∧ w'.cell? ⟨bb, 1, none⟩ = some (.pointer (some ⟨qb, 0, none⟩)) ∧ w'.cell? ⟨qa, 1, none⟩ = some (.iface TD x3) ∧ w'.cell? ⟨qb, 1, none⟩ = some (.iface 80 y3)) (ds := []) (lb 16 0) (by kernel_rfl) rfl rfl ⟨ucell_le _ _ (HM3.out _ _ HCA.out), ucell_le _ _ (HM3.out _ _ HCB.out), ucell_le _ _ (HM3.out _ _ HQA1.out), ucell_le _ _ (HM3.out _ _ HQB1.out)⟩ (fun hHeld => ?_)
            refine pure_ (i := 0) (N := some 82) (v := ?_) (a' := ?_) (lb 16 1) rfl rfl (by kernel_rfl) (fun _ _ _ h => h) (Or.inl ⟨by rfl, ?_⟩) ?_ ?_
            rotate_left
            · intro w'
              go_simp
              with_reducible rfl
            rotate_left
            · simp only [Act.put, nrA, nrB, nrC, i64_w, i32_w]
              rfl
            refine pure_ (i := 1) (N := some 83) (v := ?_) (a' := ?_) (lb 16 3) rfl rfl (by kernel_rfl) (fun _ _ _ h => h) (Or.inl ⟨by rfl, ?_⟩) ?_ ?_
            rotate_left
            · intro w'
              go_simp
              with_reducible rfl
            rotate_left
            · simp only [Act.put, nrA, nrB, nrC, i64_w, i32_w]
              rfl
            refine pure_ (i := 2) (N := some 84) (v := ?_) (a' := ?_) (lb 16 7) rfl rfl (by kernel_rfl) (fun _ _ _ h => h) (Or.inl ⟨by rfl, ?_⟩) ?_ ?_
            rotate_left
            · intro w'
              go_simp
              with_reducible rfl
            rotate_left
            · simp only [Act.put, nrA, nrB, nrC, i64_w, i32_w]
              rfl
            refine pure_ (i := 7) (N := some 89) (v := ?_) (a' := ?_) (lb 16 135) rfl rfl (by kernel_rfl) (fun _ _ _ h => h) (Or.inl ⟨by rfl, ?_⟩) ?_ ?_
            rotate_left
            · intro w'
              go_simp
              with_reducible rfl
            rotate_left
            · simp only [Act.put, nrA, nrB, nrC, i64_w, i32_w]
              rfl
            refine pure_ (i := 8) (N := some 90) (v := ?_) (a' := ?_) (lb 16 391) rfl rfl (by kernel_rfl) (fun _ _ _ h => h) (Or.inl ⟨by rfl, ?_⟩) ?_ ?_
            rotate_left
            · intro w'
              go_simp
              with_reducible rfl
            rotate_left
            · simp only [Act.put, nrA, nrB, nrC, i64_w, i32_w]
              rfl
            refine pure_ (i := 9) (N := some 91) (v := ?_) (a' := ?_) (lb 16 903) rfl rfl (by kernel_rfl) (fun _ _ _ h => h) (Or.inl ⟨by rfl, ?_⟩) ?_ ?_
            rotate_left
            · intro w'
              go_simp
              with_reducible rfl
            rotate_left
            · simp only [Act.put, nrA, nrB, nrC, i64_w, i32_w]
              rfl
            refine take_ (i := 3) (N := some 85) (v := ?_) (a' := ?_) (lb 16 911) rfl rfl (by kernel_rfl) (fun _ _ _ h => h) (Or.inl ⟨by rfl, ?_⟩) hHeld ?_ ?_
            rotate_left
            · rintro w' ⟨s0, s1, s2, s3⟩
              go_simp
              with_reducible rfl
            rotate_left
            · simp only [Act.put, nrA, nrB, nrC, i64_w, i32_w]
              rfl
            refine pure_ (i := 4) (N := some 86) (v := ?_) (a' := ?_) (lb 16 927) rfl rfl (by kernel_rfl) (fun _ _ _ h => h) (Or.inl ⟨by rfl, ?_⟩) ?_ ?_
            rotate_left
            · intro w'
              go_simp
              with_reducible rfl
            rotate_left
            · simp only [Act.put, nrA, nrB, nrC, i64_w, i32_w]
              rfl
            refine pure_ (i := 5) (N := some 87) (v := ?_) (a' := ?_) (lb 16 959) rfl rfl (by kernel_rfl) (fun _ _ _ h => h) (Or.inl ⟨by rfl, ?_⟩) ?_ ?_
            rotate_left
            · intro w'
              go_simp
              with_reducible rfl
            rotate_left
            · simp only [Act.put, nrA, nrB, nrC, i64_w, i32_w]
              rfl
            refine take_ (i := 6) (N := some 88) (v := ?_) (a' := ?_) (lb 16 1023) rfl rfl (by kernel_rfl) (fun _ _ _ h => h) (Or.inl ⟨by rfl, ?_⟩) hHeld ?_ ?_
            rotate_left
            · rintro w' ⟨s0, s1, s2, s3⟩
              go_simp
              with_reducible rfl
            rotate_left
            · simp only [Act.put, nrA, nrB, nrC, i64_w, i32_w]
              rfl
            refine take_ (i := 10) (N := some 92) (v := ?_) (a' := ?_) (lb 16 2047) rfl rfl (by kernel_rfl) (fun _ _ _ h => h) (Or.inl ⟨by rfl, ?_⟩) hHeld ?_ ?_
            rotate_left
            · rintro w' ⟨s0, s1, s2, s3⟩
              go_simp
              with_reducible rfl
            rotate_left
            · simp only [Act.put, nrA, nrB, nrC, i64_w, i32_w]
              rfl
            refine pure_ (i := 11) (N := some 93) (v := ?_) (a' := ?_) (lb 16 4095) rfl rfl (by kernel_rfl) (fun _ _ _ h => h) (Or.inl ⟨by rfl, ?_⟩) ?_ ?_
            rotate_left
            · intro w'
              go_simp
              with_reducible rfl
            rotate_left
            · simp only [Act.put, nrA, nrB, nrC, i64_w, i32_w]
              rfl
            refine pure_ (i := 12) (N := some 94) (v := ?_) (a' := ?_) (lb 16 8191) rfl rfl (by kernel_rfl) (fun _ _ _ h => h) (Or.inl ⟨by rfl, ?_⟩) ?_ ?_
            rotate_left
            · intro w'
              go_simp
              with_reducible rfl
            rotate_left
            · simp only [Act.put, nrA, nrB, nrC, i64_w, i32_w]
              rfl
            refine take_ (i := 13) (N := some 95) (v := ?_) (a' := ?_) (lb 16 16383) rfl rfl (by kernel_rfl) (fun _ _ _ h => h) (Or.inl ⟨by rfl, ?_⟩) hHeld ?_ ?_
            rotate_left
            · rintro w' ⟨s0, s1, s2, s3⟩
              go_simp
              with_reducible rfl
            rotate_left
            · simp only [Act.put, nrA, nrB, nrC, i64_w, i32_w]
              rfl
            refine one_ (i := 14) (N := some 96) (lb 16 32767) rfl rfl (by kernel_rfl) (by decide) (fun K hK => ?_)
            refine goes_ Tryz.func72 (by kernel_rfl) rfl #[.iface TD x3, .iface 80 y3] (by rfl) rfl rfl (by simp only [List.map_toArray, List.map_cons, List.map_nil]; rfl) ?_
            with_reducible refine (or_anyN (m := m) (w := w3.drew) (a := some v1) (b := some v2) HV1.out HV2.out HMDS.out (by have h1 := HWD.out; have h2 := OW_le v1; have h3 := OW_le v2; rw [show OWo (some v1) = OW v1 from rfl, show OWo (some v2) = OW v2 from rfl]; omega)).mono ?_
            rintro e w5 ⟨tv, ov, hov, rfl, hrv, hb5d, hnnv⟩
            refine ⟨_, rfl, ?_⟩
            have hb5 : Below w3.heap.size w3 w5 := bl_trans (Below.refl w3.heap.size w3).drew hb5d
            refine hK.out _ _ ⟨ucell_le _ _ ((HM3.out.trans (mleU hb5)) _ _ HCA.out), ucell_le _ _ ((HM3.out.trans (mleU hb5)) _ _ HCB.out), ucell_le _ _ ((HM3.out.trans (mleU hb5)) _ _ HQA1.out), ucell_le _ _ ((HM3.out.trans (mleU hb5)) _ _ HQB1.out)⟩ (fun hHeld => ?_)
            clear hK K
            refine norm_ (a' := ?_) ?_ ?_
            rotate_left
            · show Act.put _ (some 96) _ = _
              simp only [Act.put, nrA, nrB, nrC, i64_w, i32_w]
              rfl
            refine pure_ (i := 15) (N := some 7) (v := ?_) (a' := ?_) (lb 16 65535) rfl rfl (by kernel_rfl) (fun _ _ _ h => h) (Or.inl ⟨by rfl, ?_⟩) ?_ ?_
            rotate_left
            · intro w'
              go_simp
              with_reducible rfl
            rotate_left
            · simp only [Act.put, nrA, nrB, nrC, i64_w, i32_w]
              rfl
            refine done_ (by kernel_rfl) ?_
            obtain ⟨rv, er⟩ := Option.ne_none_iff_exists'.1 (hnnv (.inl (by simp)))
            subst er
            have HRV := Lib.hid (show RT (fr m w.heap.size w5 none) tv rv from RT.mono (fr_lower HLO.out HB3.out.size (fun _ _ _ => rfl)) hrv)
            obtain ⟨AV1, uv, hs⟩ := HRV.out.shape'
            subst hs
            have HOV := Lib.hid (or_ws hov rfl HRV.out.nt)
            have HB5 := Lib.hid (bl_trans HB3.out hb5)
            have HFK := Lib.hid (HRK.out.mono (fr_bl hb5))
            clear hHeld hov hrv hb5d hnnv hb5
            go_wp2_with (first | (go_at_call 83; refine (ndp_any AK1 _ uk _ _).mono ?_; rintro e wd ⟨rfl, hwd⟩; have HWX := Lib.hid hwd; have HBW := Lib.hid (show Below w.heap.size w wd from by rw [hwd]; exact bl_alloc HB5.out _); clear hwd))
            have HX := Lib.hid (show DyM (fr m w.heap.size wd none) (.pointer (some ⟨w5.heap.size, 0, none⟩)) [rk, rv] ∧ MoD [k1, v1] [k2, v2] [rk, rv] ∧ Below w.heap.size w wd from by
              have hz := HWX.out
              have hat : wd.heap[w5.heap.size]? = some (.cells #[.iface AK1 uk, .iface AV1 uv] 107 (0, 0)) := by rw [hz]; exact al_new rfl
              have hmo : MLe (fr m w.heap.size w5 none) (fr m w.heap.size wd none) := by rw [hz]; exact fr_alloc _
              exact ⟨.inr ⟨_, _, _, _, _, rfl, rfl, fr_at HB5.out.size hat rfl, fr_at HB5.out.size hat rfl, HFK.out.mono hmo, HRV.out.mono hmo⟩, ⟨fun h => by simp at h, fun h => by simp at h, by have h1 := HOK.out; have h2 := HOV.out; simp [WSs]; omega⟩, HBW.out⟩)
            go_meet
            exact ⟨_, [rk, rv], rfl, HX.out⟩
          · have HUD := Lib.hid hU
            clear hU
            go_wp2_with fail
            rw [assert80 HTD.out]
            go_wp2_with fail
            rw [assert80 HUD.out]
            go_wp2_with fail
            clear da db dc dd
            have HV1 := Lib.hid (show RO m (.iface TD x3) (some v1) from HV1.out)
            have HV2 := Lib.hid (show RO m (.iface UD y3) (some v2) from HV2.out)
            refine start_ (n := 16) (S := fun w' => w'.cell? ⟨ba, 1, none⟩ = some (.pointer (some ⟨qa, 0, none⟩)) ∧ w'.cell? ⟨bb, 1, none⟩ = some (.pointer (some ⟨qb, 0, none⟩)) ∧ w'.cell? ⟨qa, 1, none⟩ = some (.iface TD x3) ∧ w'.cell? ⟨qb, 1, none⟩ = some (.iface UD y3)) (ds := []) (lb 16 0) (by kernel_rfl) rfl rfl ⟨ucell_le _ _ (HM3.out _ _ HCA.out), ucell_le _ _ (HM3.out _ _ HCB.out), ucell_le _ _ (HM3.out _ _ HQA1.out), ucell_le _ _ (HM3.out _ _ HQB1.out)⟩ (fun hHeld => ?_)
            refine pure_ (i := 0) (N := some 82) (v := ?_) (a' := ?_) (lb 16 1) rfl rfl (by kernel_rfl) (fun _ _ _ h => h) (Or.inl ⟨by rfl, ?_⟩) ?_ ?_
            rotate_left
            · intro w'
              go_simp
              with_reducible rfl
            rotate_left
            · simp only [Act.put, nrA, nrB, nrC, i64_w, i32_w]
              rfl
            refine pure_ (i := 1) (N := some 83) (v := ?_) (a' := ?_) (lb 16 3) rfl rfl (by kernel_rfl) (fun _ _ _ h => h) (Or.inl ⟨by rfl, ?_⟩) ?_ ?_
            rotate_left
            · intro w'
              go_simp
              with_reducible rfl
            rotate_left
            · simp only [Act.put, nrA, nrB, nrC, i64_w, i32_w]
              rfl
            refine pure_ (i := 2) (N := some 84) (v := ?_) (a' := ?_) (lb 16 7) rfl rfl (by kernel_rfl) (fun _ _ _ h => h) (Or.inl ⟨by rfl, ?_⟩) ?_ ?_
            rotate_left
            · intro w'
              go_simp
              with_reducible rfl
            rotate_left
            · simp only [Act.put, nrA, nrB, nrC, i64_w, i32_w]
              rfl
            refine pure_ (i := 7) (N := some 89) (v := ?_) (a' := ?_) (lb 16 135) rfl rfl (by kernel_rfl) (fun _ _ _ h => h) (Or.inl ⟨by rfl, ?_⟩) ?_ ?_
            rotate_left
            · intro w'
              go_simp
              with_reducible rfl
            rotate_left
            · simp only [Act.put, nrA, nrB, nrC, i64_w, i32_w]
              rfl
            refine pure_ (i := 8) (N := some 90) (v := ?_) (a' := ?_) (lb 16 391) rfl rfl (by kernel_rfl) (fun _ _ _ h => h) (Or.inl ⟨by rfl, ?_⟩) ?_ ?_
            rotate_left
            · intro w'
              go_simp
              with_reducible rfl
            rotate_left
            · simp only [Act.put, nrA, nrB, nrC, i64_w, i32_w]
              rfl
            refine pure_ (i := 9) (N := some 91) (v := ?_) (a' := ?_) (lb 16 903) rfl rfl (by kernel_rfl) (fun _ _ _ h => h) (Or.inl ⟨by rfl, ?_⟩) ?_ ?_
            rotate_left
            · intro w'
              go_simp
              with_reducible rfl
            rotate_left
            · simp only [Act.put, nrA, nrB, nrC, i64_w, i32_w]
              rfl
            refine take_ (i := 3) (N := some 85) (v := ?_) (a' := ?_) (lb 16 911) rfl rfl (by kernel_rfl) (fun _ _ _ h => h) (Or.inl ⟨by rfl, ?_⟩) hHeld ?_ ?_
            rotate_left
            · rintro w' ⟨s0, s1, s2, s3⟩
              go_simp
              with_reducible rfl
            rotate_left
            · simp only [Act.put, nrA, nrB, nrC, i64_w, i32_w]
              rfl
            refine pure_ (i := 4) (N := some 86) (v := ?_) (a' := ?_) (lb 16 927) rfl rfl (by kernel_rfl) (fun _ _ _ h => h) (Or.inl ⟨by rfl, ?_⟩) ?_ ?_
            rotate_left
            · intro w'
              go_simp
              with_reducible rfl
            rotate_left
            · simp only [Act.put, nrA, nrB, nrC, i64_w, i32_w]
              rfl
            refine pure_ (i := 5) (N := some 87) (v := ?_) (a' := ?_) (lb 16 959) rfl rfl (by kernel_rfl) (fun _ _ _ h => h) (Or.inl ⟨by rfl, ?_⟩) ?_ ?_
            rotate_left
            · intro w'
              go_simp
              with_reducible rfl
            rotate_left
            · simp only [Act.put, nrA, nrB, nrC, i64_w, i32_w]
              rfl
            refine take_ (i := 6) (N := some 88) (v := ?_) (a' := ?_) (lb 16 1023) rfl rfl (by kernel_rfl) (fun _ _ _ h => h) (Or.inl ⟨by rfl, ?_⟩) hHeld ?_ ?_
            rotate_left
            · rintro w' ⟨s0, s1, s2, s3⟩
              go_simp
              with_reducible rfl
            rotate_left
            · simp only [Act.put, nrA, nrB, nrC, i64_w, i32_w]
              rfl
            refine take_ (i := 10) (N := some 92) (v := ?_) (a' := ?_) (lb 16 2047) rfl rfl (by kernel_rfl) (fun _ _ _ h => h) (Or.inl ⟨by rfl, ?_⟩) hHeld ?_ ?_
            rotate_left
            · rintro w' ⟨s0, s1, s2, s3⟩
              go_simp
              with_reducible rfl
            rotate_left
            · simp only [Act.put, nrA, nrB, nrC, i64_w, i32_w]
              rfl
            refine pure_ (i := 11) (N := some 93) (v := ?_) (a' := ?_) (lb 16 4095) rfl rfl (by kernel_rfl) (fun _ _ _ h => h) (Or.inl ⟨by rfl, ?_⟩) ?_ ?_
            rotate_left
            · intro w'
              go_simp
              with_reducible rfl
            rotate_left
            · simp only [Act.put, nrA, nrB, nrC, i64_w, i32_w]
              rfl
            refine pure_ (i := 12) (N := some 94) (v := ?_) (a' := ?_) (lb 16 8191) rfl rfl (by kernel_rfl) (fun _ _ _ h => h) (Or.inl ⟨by rfl, ?_⟩) ?_ ?_
            rotate_left
            · intro w'
              go_simp
              with_reducible rfl
            rotate_left
            · simp only [Act.put, nrA, nrB, nrC, i64_w, i32_w]
              rfl
            refine take_ (i := 13) (N := some 95) (v := ?_) (a' := ?_) (lb 16 16383) rfl rfl (by kernel_rfl) (fun _ _ _ h => h) (Or.inl ⟨by rfl, ?_⟩) hHeld ?_ ?_
            rotate_left
            · rintro w' ⟨s0, s1, s2, s3⟩
              go_simp
              with_reducible rfl
            rotate_left
            · simp only [Act.put, nrA, nrB, nrC, i64_w, i32_w]
              rfl
            refine one_ (i := 14) (N := some 96) (lb 16 32767) rfl rfl (by kernel_rfl) (by decide) (fun K hK => ?_)
            refine goes_ Tryz.func72 (by kernel_rfl) rfl #[.iface TD x3, .iface UD y3] (by rfl) rfl rfl (by simp only [List.map_toArray, List.map_cons, List.map_nil]; rfl) ?_
            with_reducible refine (or_anyN (m := m) (w := w3.drew) (a := some v1) (b := some v2) HV1.out HV2.out HMDS.out (by have h1 := HWD.out; have h2 := OW_le v1; have h3 := OW_le v2; rw [show OWo (some v1) = OW v1 from rfl, show OWo (some v2) = OW v2 from rfl]; omega)).mono ?_
            rintro e w5 ⟨tv, ov, hov, rfl, hrv, hb5d, hnnv⟩
            refine ⟨_, rfl, ?_⟩
            have hb5 : Below w3.heap.size w3 w5 := bl_trans (Below.refl w3.heap.size w3).drew hb5d
            refine hK.out _ _ ⟨ucell_le _ _ ((HM3.out.trans (mleU hb5)) _ _ HCA.out), ucell_le _ _ ((HM3.out.trans (mleU hb5)) _ _ HCB.out), ucell_le _ _ ((HM3.out.trans (mleU hb5)) _ _ HQA1.out), ucell_le _ _ ((HM3.out.trans (mleU hb5)) _ _ HQB1.out)⟩ (fun hHeld => ?_)
            clear hK K
            refine norm_ (a' := ?_) ?_ ?_
            rotate_left
            · show Act.put _ (some 96) _ = _
              simp only [Act.put, nrA, nrB, nrC, i64_w, i32_w]
              rfl
            refine pure_ (i := 15) (N := some 7) (v := ?_) (a' := ?_) (lb 16 65535) rfl rfl (by kernel_rfl) (fun _ _ _ h => h) (Or.inl ⟨by rfl, ?_⟩) ?_ ?_
            rotate_left
            · intro w'
              go_simp
              with_reducible rfl
            rotate_left
            · simp only [Act.put, nrA, nrB, nrC, i64_w, i32_w]
              rfl
            refine done_ (by kernel_rfl) ?_
            obtain ⟨rv, er⟩ := Option.ne_none_iff_exists'.1 (hnnv (.inl (by simp)))
            subst er
            have HRV := Lib.hid (show RT (fr m w.heap.size w5 none) tv rv from RT.mono (fr_lower HLO.out HB3.out.size (fun _ _ _ => rfl)) hrv)
            obtain ⟨AV1, uv, hs⟩ := HRV.out.shape'
            subst hs
            have HOV := Lib.hid (or_ws hov rfl HRV.out.nt)
            have HB5 := Lib.hid (bl_trans HB3.out hb5)
            have HFK := Lib.hid (HRK.out.mono (fr_bl hb5))
            clear hHeld hov hrv hb5d hnnv hb5
            go_wp2_with (first | (go_at_call 83; refine (ndp_any AK1 _ uk _ _).mono ?_; rintro e wd ⟨rfl, hwd⟩; have HWX := Lib.hid hwd; have HBW := Lib.hid (show Below w.heap.size w wd from by rw [hwd]; exact bl_alloc HB5.out _); clear hwd))
            have HX := Lib.hid (show DyM (fr m w.heap.size wd none) (.pointer (some ⟨w5.heap.size, 0, none⟩)) [rk, rv] ∧ MoD [k1, v1] [k2, v2] [rk, rv] ∧ Below w.heap.size w wd from by
              have hz := HWX.out
              have hat : wd.heap[w5.heap.size]? = some (.cells #[.iface AK1 uk, .iface AV1 uv] 107 (0, 0)) := by rw [hz]; exact al_new rfl
              have hmo : MLe (fr m w.heap.size w5 none) (fr m w.heap.size wd none) := by rw [hz]; exact fr_alloc _
              exact ⟨.inr ⟨_, _, _, _, _, rfl, rfl, fr_at HB5.out.size hat rfl, fr_at HB5.out.size hat rfl, HFK.out.mono hmo, HRV.out.mono hmo⟩, ⟨fun h => by simp at h, fun h => by simp at h, by have h1 := HOK.out; have h2 := HOV.out; simp [WSs]; omega⟩, HBW.out⟩)
            go_meet
            exact ⟨_, [rk, rv], rfl, HX.out⟩
  case rest =>
  obtain ⟨dd, more, rfl, hcd⟩ := hcut
  have HDY := Lib.hid hcd.out.1
  have HMD := Lib.hid hcd.out.2.1
  have HBW := Lib.hid hcd.out.2.2
  have HMW := Lib.hid (HM.out.trans (mleU HBW.out))
  clear hcd dca dcb
  have ca0 := ucell_le _ _ (HMW.out _ _ HA.out.1)
  have hba := World.block_lt_of_cell? _ _ ca0
  go_wp2
  generalize hzA : (PA.map (·.1)).zip xsa = zA
  have HZL := Lib.hid (show zA.length = PA.length from by rw [← hzA, List.length_zip, HA.out.2.2.2.1]; simp)
  have HZA := Lib.hid (show ∀ i (h : i < zA.length) (h1 : i < PA.length) (h2 : i < xsa.length), zA[i] = (PA[i].1, xsa[i]) from fun i h h1 h2 => by subst hzA; simp)
  have HZN := Lib.hid (show ∀ i (h : i < zA.length), ∀ q ∈ zA.take i, q.1 ≠ (zA[i]).1 from zip_apartK hzA HA.out.nodup HA.out.2.2.2.1)
  have HZE := Lib.hid hzA
  clear hzA
  go_loopw [119] (fun i wr => ∃ k : Nat, k ≤ PA.length ∧ i = .int .i64 k ∧ Hid (MapA wr wc.heap.size (zA.take k) ∧ (wc.alloc (.map #[] 0)).grownBy wr (some wc.heap.size))) (fun i _ => PA.length - (intOf i).toNat)
  case atStart => exact ⟨0, Nat.zero_le _, rfl, (show MapA _ _ [] from al_new rfl), ⟨rfl, rfl, rfl, Nat.le_refl _, fun _ _ _ => rfl⟩⟩
  case round =>
    obtain ⟨k, hk, rfl, hI⟩ := hrel
    have HMR := Lib.hid (mle_map HMW.out hI.out.2)
    by_cases hlt : k < PA.length
    · have hkp : k < psa.length := by rw [HA.out.2.2.1]; exact hlt
      have hkx : k < xsa.length := by rw [HA.out.2.2.2.1]; exact hlt
      have hkz : k < zA.length := by rw [HZL.out]; exact hlt
      obtain ⟨rb, off, ea, hx0⟩ := HA.out.2.2.2.2.1.at (show k < (psa.map fun p => Value.pointer (some ⟨p, 0, none⟩)).length by simpa using hkp)
      rw [List.getElem_map] at hx0
      have EA := Lib.hid ea
      subst ea
      have q0 := ucell_le _ _ (HMR.out _ _ hx0)
      have hxr := HA.out.2.2.2.2.2.2.2.1 k hkx hlt
      obtain ⟨T, u, hs⟩ := hxr.shape'
      have HC0 := Lib.hid (ucell_le _ _ (HMR.out _ _ (HA.out.2.2.2.2.2.1 k hkp hlt)))
      have HC1 := Lib.hid (show wr.cell? ⟨psa[k], 1, none⟩ = some (.iface T u) from by rw [← hs]; exact ucell_le _ _ (HMR.out _ _ (HA.out.2.2.2.2.2.2.1 k hkp hkx)))
      have HZK := Lib.hid (show zA[k] = (PA[k].1, .iface T u) from by rw [HZA.out k hkz hlt hkx, hs])
      have HPS := Lib.hid (show ∃ ob, wr.heap[psa[k]]? = some ob from ⟨_, Array.getElem?_eq_getElem (World.block_lt_of_cell? _ _ HC0.out)⟩)
      clear hxr hs hx0
      go_wp2
      clear q0
      refine start_ (n := 10) (S := fun w' => w'.cell? ⟨psa[k], 0, none⟩ = some PA[k].1.v ∧ w'.cell? ⟨psa[k], 1, none⟩ = some (.iface T u)) (ds := [9]) (lb 10 0) (by kernel_rfl) rfl rfl ⟨HC0.out, HC1.out⟩ (fun hHeld => ?_)
      refine pure_ (i := 0) (N := some 123) (v := ?_) (a' := ?_) (lb 10 1) rfl rfl (by kernel_rfl) (fun _ _ _ h => h) (Or.inl ⟨by rfl, ?_⟩) ?_ ?_
      rotate_left
      · intro w'
        go_simp
        with_reducible rfl
      rotate_left
      · simp only [Act.put, nrA, nrB, nrC, i64_w, i32_w]
        rfl
      refine pure_ (i := 1) (N := some 124) (v := ?_) (a' := ?_) (lb 10 3) rfl rfl (by kernel_rfl) (fun _ _ _ h => h) (Or.inl ⟨by rfl, ?_⟩) ?_ ?_
      rotate_left
      · intro w'
        go_simp
        with_reducible rfl
      rotate_left
      · simp only [Act.put, nrA, nrB, nrC, i64_w, i32_w]
        rfl
      refine pure_ (i := 2) (N := some 125) (v := ?_) (a' := ?_) (lb 10 7) rfl rfl (by kernel_rfl) (fun _ _ _ h => h) (Or.inl ⟨by rfl, ?_⟩) ?_ ?_
      rotate_left
      · intro w'
        go_simp
        with_reducible rfl
      rotate_left
      · simp only [Act.put, nrA, nrB, nrC, i64_w, i32_w]
        rfl
      refine pure_ (i := 3) (N := some 126) (v := ?_) (a' := ?_) (lb 10 15) rfl rfl (by kernel_rfl) (fun _ _ _ h => h) (Or.inl ⟨by rfl, ?_⟩) ?_ ?_
      rotate_left
      · intro w'
        go_simp
        with_reducible rfl
      rotate_left
      · simp only [Act.put, nrA, nrB, nrC, i64_w, i32_w]
        rfl
      refine pure_ (i := 5) (N := some 128) (v := ?_) (a' := ?_) (lb 10 47) rfl rfl (by kernel_rfl) (fun _ _ _ h => h) (Or.inl ⟨by rfl, ?_⟩) ?_ ?_
      rotate_left
      · intro w'
        go_simp
        with_reducible rfl
      rotate_left
      · simp only [Act.put, nrA, nrB, nrC, i64_w, i32_w]
        rfl
      refine pure_ (i := 6) (N := some 129) (v := ?_) (a' := ?_) (lb 10 111) rfl rfl (by kernel_rfl) (fun _ _ _ h => h) (Or.inl ⟨by rfl, ?_⟩) ?_ ?_
      rotate_left
      · intro w'
        go_simp
        with_reducible rfl
      rotate_left
      · simp only [Act.put, nrA, nrB, nrC, i64_w, i32_w]
        rfl
      refine pure_ (i := 7) (N := some 130) (v := ?_) (a' := ?_) (lb 10 239) rfl rfl (by kernel_rfl) (fun _ _ _ h => h) (Or.inl ⟨by rfl, ?_⟩) ?_ ?_
      rotate_left
      · intro w'
        go_simp
        with_reducible rfl
      rotate_left
      · simp only [Act.put, nrA, nrB, nrC, i64_w, i32_w]
        rfl
      refine take_ (i := 4) (N := some 127) (v := ?_) (a' := ?_) (lb 10 255) rfl rfl (by kernel_rfl) (fun _ _ _ h => h) (Or.inl ⟨by rfl, ?_⟩) hHeld ?_ ?_
      rotate_left
      · rintro w' ⟨s0, s1⟩
        go_simp
        with_reducible rfl
      rotate_left
      · simp only [Act.put, nrA, nrB, nrC, i64_w, i32_w]
        rfl
      refine take_ (i := 8) (N := some 131) (v := ?_) (a' := ?_) (lb 10 511) rfl rfl (by kernel_rfl) (fun _ _ _ h => h) (Or.inl ⟨by rfl, ?_⟩) hHeld ?_ ?_
      rotate_left
      · rintro w' ⟨s0, s1⟩
        go_simp
        with_reducible rfl
      rotate_left
      · simp only [Act.put, nrA, nrB, nrC, i64_w, i32_w]
        rfl
      refine last_ (i := 9) (N := none) (lb 10 1023) rfl rfl (by kernel_rfl) (by decide) (fun K hK => ?_)
      refine step_upd_no rfl (.tmp 123) (.tmp 127) (.tmp 131) rfl wc.heap.size (zA.take k) PA[k].1 (.iface T u) rfl rfl rfl hI.out.1 (fun q hq => by have h := HZN.out k hkz q hq; rw [HZK.out] at h; exact h) ?_
      intro w6 hM6 hg6 hs6
      refine hK.out _ _ ?_
      clear hK K
      refine done_ (by kernel_rfl) ?_
      have HM6 := Lib.hid hM6
      have HG6 := Lib.hid hg6
      clear hM6 hg6
      go_wp2
      go_roundw
      case rel =>
        refine ⟨k + 1, by omega, by go_num, ?_, World.grownBy.trans hI.out.2 (gb_drew HG6.out)⟩
        rw [List.take_succ_eq_append_getElem hkz, HZK.out]; exact HM6.out
      case measure => simp [intOf]; omega
    · obtain rfl : k = PA.length := by omega
      have hM0 := hI.out.1
      rw [← HZL.out, List.take_length] at hM0
      have HS2 := Lib.hid (mo2_start HA.out HMW.out HBW.out HLO.out (show MapA wr wc.heap.size _ from by rw [HZE.out]; exact hM0) hI.out.2)
      rw [HZE.out] at HS2
      have cb0 := ucell_le _ _ (HMR.out _ _ HB.out.1)
      clear hM0
      go_wp2
      clear cb0
      go_loopw [138] (fun i wr => ∃ (k : Nat) (L : List (AK × Value)) (T : List Pr), k ≤ PB.length ∧ i = .int .i64 k ∧ Hid (Mo2 m w wc wc.heap.size PA (PB.take k) L T wr)) (fun i _ => PB.length - (intOf i).toNat)
      case atStart => exact ⟨0, zA, PA, Nat.zero_le _, rfl, HS2.out⟩
      case round =>
        obtain ⟨k, L, T, hk, rfl, hJ⟩ := hrel
        have HMQ := Lib.hid (show MLe m (ucell wr) from hJ.out.2.2.2.2.2.2.2.2)
        by_cases hlt : k < PB.length
        · have hkp : k < psb.length := by rw [HB.out.2.2.1]; exact hlt
          have hkx : k < xsb.length := by rw [HB.out.2.2.2.1]; exact hlt
          obtain ⟨rb, off, ea, hx0⟩ := HB.out.2.2.2.2.1.at (show k < (psb.map fun p => Value.pointer (some ⟨p, 0, none⟩)).length by simpa using hkp)
          rw [List.getElem_map] at hx0
          subst ea
          have q0 := ucell_le _ _ (HMQ.out _ _ hx0)
          have hxr := HB.out.2.2.2.2.2.2.2.1 k hkx hlt
          obtain ⟨U, z, hs⟩ := hxr.shape'
          have hc0 := ucell_le _ _ (HMQ.out _ _ (HB.out.2.2.2.2.2.1 k hkp hlt))
          have HC0 := Lib.hid hc0
          have HC1 := Lib.hid (show wr.cell? ⟨psb[k], 1, none⟩ = some (.iface U z) from by rw [← hs]; exact ucell_le _ _ (HMQ.out _ _ (HB.out.2.2.2.2.2.2.1 k hkp hkx)))
          have hc1 := HC1.out
          have HXT := Lib.hid (show RT (fr m w.heap.size wr none) (.iface U z) PB[k].2 from by rw [← hs]; exact hxr.mono (fr_old HLO.out))
          have HPS := Lib.hid (show ∃ ob, wr.heap[psb[k]]? = some ob from ⟨_, Array.getElem?_eq_getElem (World.block_lt_of_cell? _ _ HC0.out)⟩)
          have HTK := Lib.hid (show PB.take (k + 1) = PB.take k ++ [PB[k]] from List.take_succ_eq_append_getElem hlt)
          have HTN := Lib.hid (take_ne HB.out.nodup hlt)
          clear hxr hs hx0
          by_cases hf : ∃ j, ∃ h : j < L.length, L[j].1 = PB[k].1
          · obtain ⟨j, hj, ej⟩ := hf
            have hj2 : j < T.length := by rw [← hJ.out.1]; exact hj
            have hv := hJ.out.2.2.1 j hj hj2
            obtain ⟨V, y, hs⟩ := hv.shape'
            rw [hs] at hv
            have HV := Lib.hid hv
            have HLK := Lib.hid (show (Instr.lookup 182 (.map (some wc.heap.size)) PB[k].1.v false).run Tryz.prog wr = .ok (.iface V y) wr from by rw [← hs]; exact look_yes hJ.out.2.2.2.2.1 hj ej (hJ.out.first hj ej))
            have HEJ := Lib.hid ej
            have HWS := Lib.hid (hJ.out.ws HTN.out hj hj2 ej)
            have HWK := Lib.hid (pw_at hlt)
            have HFJ := Lib.hid (hJ.out.first hj ej)
            clear hv hs ej
            by_cases hV : V = 80
            · subst hV
              by_cases hU : U = 80
              · subst hU
                have HRC := Lib.hid (IH.out T[j].2 PB[k].2 ⟨_, HWS.out.1, rfl⟩ ⟨_, List.getElem_mem hlt, rfl⟩ (fr m w.heap.size wr none) y z wr.drew HV.out HXT.out (fr_leU HMQ.out) (by have h1 := HWS.out.2; have h2 := HWK.out; have h3 := HW.out; omega))
                go_wp2_with fail
                rw [HLK.out]
                go_wp2_with fail
                refine start_ (n := 10) (S := fun w' => w'.cell? ⟨psb[k], 0, none⟩ = some PB[k].1.v) (ds := [9]) (lb 10 0) (by kernel_rfl) rfl rfl (HC0.out) (fun hHeld => ?_)
                refine pure_ (i := 0) (N := some 167) (v := ?_) (a' := ?_) (lb 10 1) rfl rfl (by kernel_rfl) (fun _ _ _ h => h) (Or.inl ⟨by rfl, ?_⟩) ?_ ?_
                rotate_left
                · intro w'
                  go_simp
                  with_reducible rfl
                rotate_left
                · simp only [Act.put, nrA, nrB, nrC, i64_w, i32_w]
                  rfl
                refine pure_ (i := 1) (N := some 168) (v := ?_) (a' := ?_) (lb 10 3) rfl rfl (by kernel_rfl) (fun _ _ _ h => h) (Or.inl ⟨by rfl, ?_⟩) ?_ ?_
                rotate_left
                · intro w'
                  go_simp
                  with_reducible rfl
                rotate_left
                · simp only [Act.put, nrA, nrB, nrC, i64_w, i32_w]
                  rfl
                refine pure_ (i := 2) (N := some 169) (v := ?_) (a' := ?_) (lb 10 7) rfl rfl (by kernel_rfl) (fun _ _ _ h => h) (Or.inl ⟨by rfl, ?_⟩) ?_ ?_
                rotate_left
                · intro w'
                  go_simp
                  with_reducible rfl
                rotate_left
                · simp only [Act.put, nrA, nrB, nrC, i64_w, i32_w]
                  rfl
                refine pure_ (i := 3) (N := some 170) (v := ?_) (a' := ?_) (lb 10 15) rfl rfl (by kernel_rfl) (fun _ _ _ h => h) (Or.inl ⟨by rfl, ?_⟩) ?_ ?_
                rotate_left
                · intro w'
                  go_simp
                  with_reducible rfl
                rotate_left
                · simp only [Act.put, nrA, nrB, nrC, i64_w, i32_w]
                  rfl
                refine pure_ (i := 5) (N := some 172) (v := ?_) (a' := ?_) (lb 10 47) rfl rfl (by kernel_rfl) (fun _ _ _ h => h) (Or.inl ⟨by rfl, ?_⟩) ?_ ?_
                rotate_left
                · intro w'
                  go_simp
                  with_reducible rfl
                rotate_left
                · simp only [Act.put, nrA, nrB, nrC, i64_w, i32_w]
                  rfl
                refine pure_ (i := 6) (N := some 173) (v := ?_) (a' := ?_) (lb 10 111) rfl rfl (by kernel_rfl) (fun _ _ _ h => h) (Or.inl ⟨by rfl, ?_⟩) ?_ ?_
                rotate_left
                · intro w'
                  go_simp
                  with_reducible rfl
                rotate_left
                · simp only [Act.put, nrA, nrB, nrC, i64_w, i32_w]
                  rfl
                refine take_ (i := 4) (N := some 171) (v := ?_) (a' := ?_) (lb 10 127) rfl rfl (by kernel_rfl) (fun _ _ _ h => h) (Or.inl ⟨by rfl, ?_⟩) hHeld ?_ ?_
                rotate_left
                · intro w' s0
                  go_simp
                  with_reducible rfl
                rotate_left
                · simp only [Act.put, nrA, nrB, nrC, i64_w, i32_w]
                  rfl
                refine one_ (i := 7) (N := some 174) (lb 10 255) rfl rfl (by kernel_rfl) (by decide) (fun K hK => ?_)
                refine goes_ Tryz.func93 (by kernel_rfl) rfl #[y, z] (by rfl) rfl rfl (by simp only [List.map_toArray, List.map_cons, List.map_nil]; rfl) ?_
                with_reducible refine (HRC.out).mono ?_
                rintro e w5 ⟨p5, r5, hst, rfl, hr, hb5d⟩
                refine ⟨_, rfl, ?_⟩
                have hb5 : Below wr.heap.size wr w5 := bl_trans (Below.refl wr.heap.size wr).drew hb5d
                refine hK.out _ _ ((mle_below hb5) _ _ HC0.out) (fun hHeld => ?_)
                clear hK K
                refine norm_ (a' := ?_) ?_ ?_
                rotate_left
                · show Act.put _ (some 174) _ = _
                  simp only [Act.put, nrA, nrB, nrC, i64_w, i32_w]
                  rfl
                refine pure_ (i := 8) (N := some 175) (v := ?_) (a' := ?_) (lb 10 511) rfl rfl (by kernel_rfl) (fun _ _ _ h => h) (Or.inl ⟨by rfl, ?_⟩) ?_ ?_
                rotate_left
                · intro w'
                  go_simp
                  with_reducible rfl
                rotate_left
                · simp only [Act.put, nrA, nrB, nrC, i64_w, i32_w]
                  rfl
                refine last_ (i := 9) (N := none) (lb 10 1023) rfl rfl (by kernel_rfl) (by decide) (fun K hK => ?_)
                refine step_upd_yes rfl (.tmp 167) (.tmp 171) (.tmp 175) rfl wc.heap.size L PB[k].1 (.iface 80 (.pointer p5)) rfl rfl rfl (hJ.out.2.2.2.2.1.bl hb5) j hj HEJ.out HFJ.out ?_
                intro w6 hM6 hg6 hs6
                refine hK.out _ _ ?_
                clear hK K
                refine done_ (by kernel_rfl) ?_
                have hR5 : RT (fr m w.heap.size w5 none) (.iface 80 (.pointer p5)) r5 := RT.mono (fr_trans HLO.out (Nat.le_of_lt (Nat.lt_of_le_of_lt hJ.out.2.2.2.2.2.2.1 hJ.out.2.2.2.2.1.lt)) hb5) hr
                have HM6 := Lib.hid hM6
                have HG6 := Lib.hid hg6
                have HB5 := Lib.hid hb5
                have HU5 := Lib.hid (show RT (fr m w.heap.size w5 none) (.iface 80 (.pointer p5)) r5 from hR5)
                have HW5 := Lib.hid (show WS r5 ≤ WS T[j].2 + WS PB[k].2 + 1 from hst.w)
                clear hHeld hM6 hg6 hb5 hs6
                go_wp2
                go_roundw
                case rel => exact ⟨k + 1, L.set j (PB[k].1, .iface 80 (.pointer p5)), T.set j (PB[k].1, r5), by omega, by go_num, by rw [HTK.out]; exact mo2_old hJ.out HB5.out HTN.out hj hj2 HEJ.out HU5.out HW5.out HM6.out HG6.out⟩
                case measure => simp [intOf]; omega
              · have HNU := Lib.hid hU
                clear hU
                go_wp2_with fail
                rw [HLK.out]
                go_wp2_with fail
                rw [assert80 HNU.out]
                go_wp2_with fail
                have HVO := Lib.hid (show RO (fr m w.heap.size wr none) (.iface 80 y) (some T[j].2) from HV.out)
                have HXO := Lib.hid (show RO (fr m w.heap.size wr none) (.iface U z) (some PB[k].2) from HXT.out)
                refine start_ (n := 12) (S := fun w' => w'.cell? ⟨psb[k], 0, none⟩ = some PB[k].1.v ∧ w'.cell? ⟨psb[k], 1, none⟩ = some (.iface U z)) (ds := [11]) (lb 12 0) (by kernel_rfl) rfl rfl ⟨HC0.out, HC1.out⟩ (fun hHeld => ?_)
                refine pure_ (i := 0) (N := some 176) (v := ?_) (a' := ?_) (lb 12 1) rfl rfl (by kernel_rfl) (fun _ _ _ h => h) (Or.inl ⟨by rfl, ?_⟩) ?_ ?_
                rotate_left
                · intro w'
                  go_simp
                  with_reducible rfl
                rotate_left
                · simp only [Act.put, nrA, nrB, nrC, i64_w, i32_w]
                  rfl
                refine pure_ (i := 1) (N := some 177) (v := ?_) (a' := ?_) (lb 12 3) rfl rfl (by kernel_rfl) (fun _ _ _ h => h) (Or.inl ⟨by rfl, ?_⟩) ?_ ?_
                rotate_left
                · intro w'
                  go_simp
                  with_reducible rfl
                rotate_left
                · simp only [Act.put, nrA, nrB, nrC, i64_w, i32_w]
                  rfl
                refine pure_ (i := 2) (N := some 178) (v := ?_) (a' := ?_) (lb 12 7) rfl rfl (by kernel_rfl) (fun _ _ _ h => h) (Or.inl ⟨by rfl, ?_⟩) ?_ ?_
                rotate_left
                · intro w'
                  go_simp
                  with_reducible rfl
                rotate_left
                · simp only [Act.put, nrA, nrB, nrC, i64_w, i32_w]
                  rfl
                refine pure_ (i := 3) (N := some 179) (v := ?_) (a' := ?_) (lb 12 15) rfl rfl (by kernel_rfl) (fun _ _ _ h => h) (Or.inl ⟨by rfl, ?_⟩) ?_ ?_
                rotate_left
                · intro w'
                  go_simp
                  with_reducible rfl
                rotate_left
                · simp only [Act.put, nrA, nrB, nrC, i64_w, i32_w]
                  rfl
                refine pure_ (i := 5) (N := some 181) (v := ?_) (a' := ?_) (lb 12 47) rfl rfl (by kernel_rfl) (fun _ _ _ h => h) (Or.inl ⟨by rfl, ?_⟩) ?_ ?_
                rotate_left
                · intro w'
                  go_simp
                  with_reducible rfl
                rotate_left
                · simp only [Act.put, nrA, nrB, nrC, i64_w, i32_w]
                  rfl
                refine pure_ (i := 6) (N := some 182) (v := ?_) (a' := ?_) (lb 12 111) rfl rfl (by kernel_rfl) (fun _ _ _ h => h) (Or.inl ⟨by rfl, ?_⟩) ?_ ?_
                rotate_left
                · intro w'
                  go_simp
                  with_reducible rfl
                rotate_left
                · simp only [Act.put, nrA, nrB, nrC, i64_w, i32_w]
                  rfl
                refine pure_ (i := 7) (N := some 183) (v := ?_) (a' := ?_) (lb 12 239) rfl rfl (by kernel_rfl) (fun _ _ _ h => h) (Or.inl ⟨by rfl, ?_⟩) ?_ ?_
                rotate_left
                · intro w'
                  go_simp
                  with_reducible rfl
                rotate_left
                · simp only [Act.put, nrA, nrB, nrC, i64_w, i32_w]
                  rfl
                refine pure_ (i := 8) (N := some 184) (v := ?_) (a' := ?_) (lb 12 495) rfl rfl (by kernel_rfl) (fun _ _ _ h => h) (Or.inl ⟨by rfl, ?_⟩) ?_ ?_
                rotate_left
                · intro w'
                  go_simp
                  with_reducible rfl
                rotate_left
                · simp only [Act.put, nrA, nrB, nrC, i64_w, i32_w]
                  rfl
                refine take_ (i := 4) (N := some 180) (v := ?_) (a' := ?_) (lb 12 511) rfl rfl (by kernel_rfl) (fun _ _ _ h => h) (Or.inl ⟨by rfl, ?_⟩) hHeld ?_ ?_
                rotate_left
                · rintro w' ⟨s0, s1⟩
                  go_simp
                  with_reducible rfl
                rotate_left
                · simp only [Act.put, nrA, nrB, nrC, i64_w, i32_w]
                  rfl
                refine take_ (i := 9) (N := some 185) (v := ?_) (a' := ?_) (lb 12 1023) rfl rfl (by kernel_rfl) (fun _ _ _ h => h) (Or.inl ⟨by rfl, ?_⟩) hHeld ?_ ?_
                rotate_left
                · rintro w' ⟨s0, s1⟩
                  go_simp
                  with_reducible rfl
                rotate_left
                · simp only [Act.put, nrA, nrB, nrC, i64_w, i32_w]
                  rfl
                refine one_ (i := 10) (N := some 186) (lb 12 2047) rfl rfl (by kernel_rfl) (by decide) (fun K hK => ?_)
                refine goes_ Tryz.func72 (by kernel_rfl) rfl #[.iface 80 y, .iface U z] (by rfl) rfl rfl (by simp only [List.map_toArray, List.map_cons, List.map_nil]; rfl) ?_
                with_reducible refine (or_anyN (m := fr m w.heap.size wr none) (w := wr.drew) (a := some T[j].2) (b := some PB[k].2) HVO.out HXO.out (fr_leU HMQ.out) (by have h1 := HWS.out.2; have h2 := HWK.out; have h3 := HW.out; have h4 := OW_le T[j].2; have h5 := OW_le PB[k].2; rw [show OWo (some T[j].2) = OW T[j].2 from rfl, show OWo (some PB[k].2) = OW PB[k].2 from rfl]; omega)).mono ?_
                rintro e w5 ⟨y2, o2, ho, rfl, hr, hb5d, hnn⟩
                refine ⟨_, rfl, ?_⟩
                obtain ⟨r5, er5⟩ := Option.ne_none_iff_exists'.1 (hnn (.inl (by simp)))
                have hb5 : Below wr.heap.size wr w5 := bl_trans (Below.refl wr.heap.size wr).drew hb5d
                refine hK.out _ _ ⟨(mle_below hb5) _ _ HC0.out, (mle_below hb5) _ _ HC1.out⟩ (fun hHeld => ?_)
                clear hK K
                refine norm_ (a' := ?_) ?_ ?_
                rotate_left
                · show Act.put _ (some 186) _ = _
                  simp only [Act.put, nrA, nrB, nrC, i64_w, i32_w]
                  rfl
                refine last_ (i := 11) (N := none) (lb 12 4095) rfl rfl (by kernel_rfl) (by decide) (fun K hK => ?_)
                refine step_upd_yes rfl (.tmp 176) (.tmp 180) (.tmp 186) rfl wc.heap.size L PB[k].1 y2 rfl rfl rfl (hJ.out.2.2.2.2.1.bl hb5) j hj HEJ.out HFJ.out ?_
                intro w6 hM6 hg6 hs6
                refine hK.out _ _ ?_
                clear hK K
                refine done_ (by kernel_rfl) ?_
                subst er5
                have hR5 : RT (fr m w.heap.size w5 none) y2 r5 := RT.mono (fr_trans HLO.out (Nat.le_of_lt (Nat.lt_of_le_of_lt hJ.out.2.2.2.2.2.2.1 hJ.out.2.2.2.2.1.lt)) hb5) hr
                have hO5 := or_ws ho rfl hR5.nt
                have HM6 := Lib.hid hM6
                have HG6 := Lib.hid hg6
                have HB5 := Lib.hid hb5
                have HU5 := Lib.hid (show RT (fr m w.heap.size w5 none) (y2) r5 from hR5)
                have HW5 := Lib.hid (show WS r5 ≤ WS T[j].2 + WS PB[k].2 + 1 from hO5)
                clear hHeld hM6 hg6 hb5 hs6
                go_wp2
                go_roundw
                case rel => exact ⟨k + 1, L.set j (PB[k].1, y2), T.set j (PB[k].1, r5), by omega, by go_num, by rw [HTK.out]; exact mo2_old hJ.out HB5.out HTN.out hj hj2 HEJ.out HU5.out HW5.out HM6.out HG6.out⟩
                case measure => simp [intOf]; omega
            · have HNV := Lib.hid hV
              clear hV
              by_cases hU : U = 80
              · subst hU
                go_wp2_with fail
                rw [HLK.out]
                go_wp2_with fail
                rw [assert80 HNV.out]
                go_wp2_with fail
                have HVO := Lib.hid (show RO (fr m w.heap.size wr none) (.iface V y) (some T[j].2) from HV.out)
                have HXO := Lib.hid (show RO (fr m w.heap.size wr none) (.iface 80 z) (some PB[k].2) from HXT.out)
                refine start_ (n := 12) (S := fun w' => w'.cell? ⟨psb[k], 0, none⟩ = some PB[k].1.v ∧ w'.cell? ⟨psb[k], 1, none⟩ = some (.iface 80 z)) (ds := [11]) (lb 12 0) (by kernel_rfl) rfl rfl ⟨HC0.out, HC1.out⟩ (fun hHeld => ?_)
                refine pure_ (i := 0) (N := some 176) (v := ?_) (a' := ?_) (lb 12 1) rfl rfl (by kernel_rfl) (fun _ _ _ h => h) (Or.inl ⟨by rfl, ?_⟩) ?_ ?_
                rotate_left
                · intro w'
                  go_simp
                  with_reducible rfl
                rotate_left
                · simp only [Act.put, nrA, nrB, nrC, i64_w, i32_w]
                  rfl
                refine pure_ (i := 1) (N := some 177) (v := ?_) (a' := ?_) (lb 12 3) rfl rfl (by kernel_rfl) (fun _ _ _ h => h) (Or.inl ⟨by rfl, ?_⟩) ?_ ?_
                rotate_left
                · intro w'
                  go_simp
                  with_reducible rfl
                rotate_left
                · simp only [Act.put, nrA, nrB, nrC, i64_w, i32_w]
                  rfl
                refine pure_ (i := 2) (N := some 178) (v := ?_) (a' := ?_) (lb 12 7) rfl rfl (by kernel_rfl) (fun _ _ _ h => h) (Or.inl ⟨by rfl, ?_⟩) ?_ ?_
                rotate_left
                · intro w'
                  go_simp
                  with_reducible rfl
                rotate_left
                · simp only [Act.put, nrA, nrB, nrC, i64_w, i32_w]
                  rfl
                refine pure_ (i := 3) (N := some 179) (v := ?_) (a' := ?_) (lb 12 15) rfl rfl (by kernel_rfl) (fun _ _ _ h => h) (Or.inl ⟨by rfl, ?_⟩) ?_ ?_
                rotate_left
                · intro w'
                  go_simp
                  with_reducible rfl
                rotate_left
                · simp only [Act.put, nrA, nrB, nrC, i64_w, i32_w]
                  rfl
                refine pure_ (i := 5) (N := some 181) (v := ?_) (a' := ?_) (lb 12 47) rfl rfl (by kernel_rfl) (fun _ _ _ h => h) (Or.inl ⟨by rfl, ?_⟩) ?_ ?_
                rotate_left
                · intro w'
                  go_simp
                  with_reducible rfl
                rotate_left
                · simp only [Act.put, nrA, nrB, nrC, i64_w, i32_w]
                  rfl
                refine pure_ (i := 6) (N := some 182) (v := ?_) (a' := ?_) (lb 12 111) rfl rfl (by kernel_rfl) (fun _ _ _ h => h) (Or.inl ⟨by rfl, ?_⟩) ?_ ?_
                rotate_left
                · intro w'
                  go_simp
                  with_reducible rfl
                rotate_left
                · simp only [Act.put, nrA, nrB, nrC, i64_w, i32_w]
                  rfl
                refine pure_ (i := 7) (N := some 183) (v := ?_) (a' := ?_) (lb 12 239) rfl rfl (by kernel_rfl) (fun _ _ _ h => h) (Or.inl ⟨by rfl, ?_⟩) ?_ ?_
                rotate_left
                · intro w'
                  go_simp
                  with_reducible rfl
                rotate_left
                · simp only [Act.put, nrA, nrB, nrC, i64_w, i32_w]
                  rfl
                refine pure_ (i := 8) (N := some 184) (v := ?_) (a' := ?_) (lb 12 495) rfl rfl (by kernel_rfl) (fun _ _ _ h => h) (Or.inl ⟨by rfl, ?_⟩) ?_ ?_
                rotate_left
                · intro w'
                  go_simp
                  with_reducible rfl
                rotate_left
                · simp only [Act.put, nrA, nrB, nrC, i64_w, i32_w]
                  rfl
                refine take_ (i := 4) (N := some 180) (v := ?_) (a' := ?_) (lb 12 511) rfl rfl (by kernel_rfl) (fun _ _ _ h => h) (Or.inl ⟨by rfl, ?_⟩) hHeld ?_ ?_
                rotate_left
                · rintro w' ⟨s0, s1⟩
                  go_simp
                  with_reducible rfl
                rotate_left
                · simp only [Act.put, nrA, nrB, nrC, i64_w, i32_w]
                  rfl
                refine take_ (i := 9) (N := some 185) (v := ?_) (a' := ?_) (lb 12 1023) rfl rfl (by kernel_rfl) (fun _ _ _ h => h) (Or.inl ⟨by rfl, ?_⟩) hHeld ?_ ?_
                rotate_left
                · rintro w' ⟨s0, s1⟩
                  go_simp
                  with_reducible rfl
                rotate_left
                · simp only [Act.put, nrA, nrB, nrC, i64_w, i32_w]
                  rfl
                refine one_ (i := 10) (N := some 186) (lb 12 2047) rfl rfl (by kernel_rfl) (by decide) (fun K hK => ?_)
                refine goes_ Tryz.func72 (by kernel_rfl) rfl #[.iface V y, .iface 80 z] (by rfl) rfl rfl (by simp only [List.map_toArray, List.map_cons, List.map_nil]; rfl) ?_
                with_reducible refine (or_anyN (m := fr m w.heap.size wr none) (w := wr.drew) (a := some T[j].2) (b := some PB[k].2) HVO.out HXO.out (fr_leU HMQ.out) (by have h1 := HWS.out.2; have h2 := HWK.out; have h3 := HW.out; have h4 := OW_le T[j].2; have h5 := OW_le PB[k].2; rw [show OWo (some T[j].2) = OW T[j].2 from rfl, show OWo (some PB[k].2) = OW PB[k].2 from rfl]; omega)).mono ?_
                rintro e w5 ⟨y2, o2, ho, rfl, hr, hb5d, hnn⟩
                refine ⟨_, rfl, ?_⟩
                obtain ⟨r5, er5⟩ := Option.ne_none_iff_exists'.1 (hnn (.inl (by simp)))
                have hb5 : Below wr.heap.size wr w5 := bl_trans (Below.refl wr.heap.size wr).drew hb5d
                refine hK.out _ _ ⟨(mle_below hb5) _ _ HC0.out, (mle_below hb5) _ _ HC1.out⟩ (fun hHeld => ?_)
                clear hK K
                refine norm_ (a' := ?_) ?_ ?_
                rotate_left
                · show Act.put _ (some 186) _ = _
                  simp only [Act.put, nrA, nrB, nrC, i64_w, i32_w]
                  rfl
                refine last_ (i := 11) (N := none) (lb 12 4095) rfl rfl (by kernel_rfl) (by decide) (fun K hK => ?_)
                refine step_upd_yes rfl (.tmp 176) (.tmp 180) (.tmp 186) rfl wc.heap.size L PB[k].1 y2 rfl rfl rfl (hJ.out.2.2.2.2.1.bl hb5) j hj HEJ.out HFJ.out ?_
                intro w6 hM6 hg6 hs6
                refine hK.out _ _ ?_
                clear hK K
                refine done_ (by kernel_rfl) ?_
                subst er5
                have hR5 : RT (fr m w.heap.size w5 none) y2 r5 := RT.mono (fr_trans HLO.out (Nat.le_of_lt (Nat.lt_of_le_of_lt hJ.out.2.2.2.2.2.2.1 hJ.out.2.2.2.2.1.lt)) hb5) hr
                have hO5 := or_ws ho rfl hR5.nt
                have HM6 := Lib.hid hM6
                have HG6 := Lib.hid hg6
                have HB5 := Lib.hid hb5
                have HU5 := Lib.hid (show RT (fr m w.heap.size w5 none) (y2) r5 from hR5)
                have HW5 := Lib.hid (show WS r5 ≤ WS T[j].2 + WS PB[k].2 + 1 from hO5)
                clear hHeld hM6 hg6 hb5 hs6
                go_wp2
                go_roundw
                case rel => exact ⟨k + 1, L.set j (PB[k].1, y2), T.set j (PB[k].1, r5), by omega, by go_num, by rw [HTK.out]; exact mo2_old hJ.out HB5.out HTN.out hj hj2 HEJ.out HU5.out HW5.out HM6.out HG6.out⟩
                case measure => simp [intOf]; omega
              · have HNU := Lib.hid hU
                clear hU
                go_wp2_with fail
                rw [HLK.out]
                go_wp2_with fail
                rw [assert80 HNV.out]
                go_wp2_with fail
                rw [assert80 HNU.out]
                go_wp2_with fail
                have HVO := Lib.hid (show RO (fr m w.heap.size wr none) (.iface V y) (some T[j].2) from HV.out)
                have HXO := Lib.hid (show RO (fr m w.heap.size wr none) (.iface U z) (some PB[k].2) from HXT.out)
                refine start_ (n := 12) (S := fun w' => w'.cell? ⟨psb[k], 0, none⟩ = some PB[k].1.v ∧ w'.cell? ⟨psb[k], 1, none⟩ = some (.iface U z)) (ds := [11]) (lb 12 0) (by kernel_rfl) rfl rfl ⟨HC0.out, HC1.out⟩ (fun hHeld => ?_)
                refine pure_ (i := 0) (N := some 176) (v := ?_) (a' := ?_) (lb 12 1) rfl rfl (by kernel_rfl) (fun _ _ _ h => h) (Or.inl ⟨by rfl, ?_⟩) ?_ ?_
                rotate_left
                · intro w'
                  go_simp
                  with_reducible rfl
                rotate_left
                · simp only [Act.put, nrA, nrB, nrC, i64_w, i32_w]
                  rfl
                refine pure_ (i := 1) (N := some 177) (v := ?_) (a' := ?_) (lb 12 3) rfl rfl (by kernel_rfl) (fun _ _ _ h => h) (Or.inl ⟨by rfl, ?_⟩) ?_ ?_
                rotate_left
                · intro w'
                  go_simp
                  with_reducible rfl
                rotate_left
                · simp only [Act.put, nrA, nrB, nrC, i64_w, i32_w]
                  rfl
                refine pure_ (i := 2) (N := some 178) (v := ?_) (a' := ?_) (lb 12 7) rfl rfl (by kernel_rfl) (fun _ _ _ h => h) (Or.inl ⟨by rfl, ?_⟩) ?_ ?_
                rotate_left
                · intro w'
                  go_simp
                  with_reducible rfl
                rotate_left
                · simp only [Act.put, nrA, nrB, nrC, i64_w, i32_w]
                  rfl
                refine pure_ (i := 3) (N := some 179) (v := ?_) (a' := ?_) (lb 12 15) rfl rfl (by kernel_rfl) (fun _ _ _ h => h) (Or.inl ⟨by rfl, ?_⟩) ?_ ?_
                rotate_left
                · intro w'
                  go_simp
                  with_reducible rfl
                rotate_left
                · simp only [Act.put, nrA, nrB, nrC, i64_w, i32_w]
                  rfl
                refine pure_ (i := 5) (N := some 181) (v := ?_) (a' := ?_) (lb 12 47) rfl rfl (by kernel_rfl) (fun _ _ _ h => h) (Or.inl ⟨by rfl, ?_⟩) ?_ ?_
                rotate_left
                · intro w'
                  go_simp
                  with_reducible rfl
                rotate_left
                · simp only [Act.put, nrA, nrB, nrC, i64_w, i32_w]
                  rfl
                refine pure_ (i := 6) (N := some 182) (v := ?_) (a' := ?_) (lb 12 111) rfl rfl (by kernel_rfl) (fun _ _ _ h => h) (Or.inl ⟨by rfl, ?_⟩) ?_ ?_
                rotate_left
                · intro w'
                  go_simp
                  with_reducible rfl
                rotate_left
                · simp only [Act.put, nrA, nrB, nrC, i64_w, i32_w]
                  rfl
                refine pure_ (i := 7) (N := some 183) (v := ?_) (a' := ?_) (lb 12 239) rfl rfl (by kernel_rfl) (fun _ _ _ h => h) (Or.inl ⟨by rfl, ?_⟩) ?_ ?_
                rotate_left
                · intro w'
                  go_simp
                  with_reducible rfl
                rotate_left
                · simp only [Act.put, nrA, nrB, nrC, i64_w, i32_w]
                  rfl
                refine pure_ (i := 8) (N := some 184) (v := ?_) (a' := ?_) (lb 12 495) rfl rfl (by kernel_rfl) (fun _ _ _ h => h) (Or.inl ⟨by rfl, ?_⟩) ?_ ?_
                rotate_left
                · intro w'
                  go_simp
                  with_reducible rfl
                rotate_left
                · simp only [Act.put, nrA, nrB, nrC, i64_w, i32_w]
                  rfl
                refine take_ (i := 4) (N := some 180) (v := ?_) (a' := ?_) (lb 12 511) rfl rfl (by kernel_rfl) (fun _ _ _ h => h) (Or.inl ⟨by rfl, ?_⟩) hHeld ?_ ?_
                rotate_left
                · rintro w' ⟨s0, s1⟩
                  go_simp
                  with_reducible rfl
                rotate_left
                · simp only [Act.put, nrA, nrB, nrC, i64_w, i32_w]
                  rfl
                refine take_ (i := 9) (N := some 185) (v := ?_) (a' := ?_) (lb 12 1023) rfl rfl (by kernel_rfl) (fun _ _ _ h => h) (Or.inl ⟨by rfl, ?_⟩) hHeld ?_ ?_
                rotate_left
                · rintro w' ⟨s0, s1⟩
                  go_simp
                  with_reducible rfl
                rotate_left
                · simp only [Act.put, nrA, nrB, nrC, i64_w, i32_w]
                  rfl
                refine one_ (i := 10) (N := some 186) (lb 12 2047) rfl rfl (by kernel_rfl) (by decide) (fun K hK => ?_)
                refine goes_ Tryz.func72 (by kernel_rfl) rfl #[.iface V y, .iface U z] (by rfl) rfl rfl (by simp only [List.map_toArray, List.map_cons, List.map_nil]; rfl) ?_
                with_reducible refine (or_anyN (m := fr m w.heap.size wr none) (w := wr.drew) (a := some T[j].2) (b := some PB[k].2) HVO.out HXO.out (fr_leU HMQ.out) (by have h1 := HWS.out.2; have h2 := HWK.out; have h3 := HW.out; have h4 := OW_le T[j].2; have h5 := OW_le PB[k].2; rw [show OWo (some T[j].2) = OW T[j].2 from rfl, show OWo (some PB[k].2) = OW PB[k].2 from rfl]; omega)).mono ?_
                rintro e w5 ⟨y2, o2, ho, rfl, hr, hb5d, hnn⟩
                refine ⟨_, rfl, ?_⟩
                obtain ⟨r5, er5⟩ := Option.ne_none_iff_exists'.1 (hnn (.inl (by simp)))
                have hb5 : Below wr.heap.size wr w5 := bl_trans (Below.refl wr.heap.size wr).drew hb5d
                refine hK.out _ _ ⟨(mle_below hb5) _ _ HC0.out, (mle_below hb5) _ _ HC1.out⟩ (fun hHeld => ?_)
                clear hK K
                refine norm_ (a' := ?_) ?_ ?_
                rotate_left
                · show Act.put _ (some 186) _ = _
                  simp only [Act.put, nrA, nrB, nrC, i64_w, i32_w]
                  rfl
                refine last_ (i := 11) (N := none) (lb 12 4095) rfl rfl (by kernel_rfl) (by decide) (fun K hK => ?_)
                refine step_upd_yes rfl (.tmp 176) (.tmp 180) (.tmp 186) rfl wc.heap.size L PB[k].1 y2 rfl rfl rfl (hJ.out.2.2.2.2.1.bl hb5) j hj HEJ.out HFJ.out ?_
                intro w6 hM6 hg6 hs6
                refine hK.out _ _ ?_
                clear hK K
                refine done_ (by kernel_rfl) ?_
                subst er5
                have hR5 : RT (fr m w.heap.size w5 none) y2 r5 := RT.mono (fr_trans HLO.out (Nat.le_of_lt (Nat.lt_of_le_of_lt hJ.out.2.2.2.2.2.2.1 hJ.out.2.2.2.2.1.lt)) hb5) hr
                have hO5 := or_ws ho rfl hR5.nt
                have HM6 := Lib.hid hM6
                have HG6 := Lib.hid hg6
                have HB5 := Lib.hid hb5
                have HU5 := Lib.hid (show RT (fr m w.heap.size w5 none) (y2) r5 from hR5)
                have HW5 := Lib.hid (show WS r5 ≤ WS T[j].2 + WS PB[k].2 + 1 from hO5)
                clear hHeld hM6 hg6 hb5 hs6
                go_wp2
                go_roundw
                case rel => exact ⟨k + 1, L.set j (PB[k].1, y2), T.set j (PB[k].1, r5), by omega, by go_num, by rw [HTK.out]; exact mo2_old hJ.out HB5.out HTN.out hj hj2 HEJ.out HU5.out HW5.out HM6.out HG6.out⟩
                case measure => simp [intOf]; omega
          · have HNO := Lib.hid (show ∀ x ∈ L, x.1 ≠ PB[k].1 from fun x hx e => hf (by obtain ⟨j, hj, rfl⟩ := List.getElem_of_mem hx; exact ⟨j, hj, e⟩))
            have HLK := Lib.hid (show (Instr.lookup 182 (.map (some wc.heap.size)) PB[k].1.v false).run Tryz.prog wr = .ok .nilIface wr from look_no hJ.out.2.2.2.2.1 HNO.out)
            clear hf
            go_wp2_with fail
            rw [HLK.out]
            go_wp2_with fail
            refine start_ (n := 10) (S := fun w' => w'.cell? ⟨psb[k], 0, none⟩ = some PB[k].1.v ∧ w'.cell? ⟨psb[k], 1, none⟩ = some (.iface U z)) (ds := [9]) (lb 10 0) (by kernel_rfl) rfl rfl ⟨HC0.out, HC1.out⟩ (fun hHeld => ?_)
            refine pure_ (i := 0) (N := some 187) (v := ?_) (a' := ?_) (lb 10 1) rfl rfl (by kernel_rfl) (fun _ _ _ h => h) (Or.inl ⟨by rfl, ?_⟩) ?_ ?_
            rotate_left
            · intro w'
              go_simp
              with_reducible rfl
            rotate_left
            · simp only [Act.put, nrA, nrB, nrC, i64_w, i32_w]
              rfl
            refine pure_ (i := 1) (N := some 188) (v := ?_) (a' := ?_) (lb 10 3) rfl rfl (by kernel_rfl) (fun _ _ _ h => h) (Or.inl ⟨by rfl, ?_⟩) ?_ ?_
            rotate_left
            · intro w'
              go_simp
              with_reducible rfl
            rotate_left
            · simp only [Act.put, nrA, nrB, nrC, i64_w, i32_w]
              rfl
            refine pure_ (i := 2) (N := some 189) (v := ?_) (a' := ?_) (lb 10 7) rfl rfl (by kernel_rfl) (fun _ _ _ h => h) (Or.inl ⟨by rfl, ?_⟩) ?_ ?_
            rotate_left
            · intro w'
              go_simp
              with_reducible rfl
            rotate_left
            · simp only [Act.put, nrA, nrB, nrC, i64_w, i32_w]
              rfl
            refine pure_ (i := 3) (N := some 190) (v := ?_) (a' := ?_) (lb 10 15) rfl rfl (by kernel_rfl) (fun _ _ _ h => h) (Or.inl ⟨by rfl, ?_⟩) ?_ ?_
            rotate_left
            · intro w'
              go_simp
              with_reducible rfl
            rotate_left
            · simp only [Act.put, nrA, nrB, nrC, i64_w, i32_w]
              rfl
            refine pure_ (i := 5) (N := some 192) (v := ?_) (a' := ?_) (lb 10 47) rfl rfl (by kernel_rfl) (fun _ _ _ h => h) (Or.inl ⟨by rfl, ?_⟩) ?_ ?_
            rotate_left
            · intro w'
              go_simp
              with_reducible rfl
            rotate_left
            · simp only [Act.put, nrA, nrB, nrC, i64_w, i32_w]
              rfl
            refine pure_ (i := 6) (N := some 193) (v := ?_) (a' := ?_) (lb 10 111) rfl rfl (by kernel_rfl) (fun _ _ _ h => h) (Or.inl ⟨by rfl, ?_⟩) ?_ ?_
            rotate_left
            · intro w'
              go_simp
              with_reducible rfl
            rotate_left
            · simp only [Act.put, nrA, nrB, nrC, i64_w, i32_w]
              rfl
            refine pure_ (i := 7) (N := some 194) (v := ?_) (a' := ?_) (lb 10 239) rfl rfl (by kernel_rfl) (fun _ _ _ h => h) (Or.inl ⟨by rfl, ?_⟩) ?_ ?_
            rotate_left
            · intro w'
              go_simp
              with_reducible rfl
            rotate_left
            · simp only [Act.put, nrA, nrB, nrC, i64_w, i32_w]
              rfl
            refine take_ (i := 4) (N := some 191) (v := ?_) (a' := ?_) (lb 10 255) rfl rfl (by kernel_rfl) (fun _ _ _ h => h) (Or.inl ⟨by rfl, ?_⟩) hHeld ?_ ?_
            rotate_left
            · rintro w' ⟨s0, s1⟩
              go_simp
              with_reducible rfl
            rotate_left
            · simp only [Act.put, nrA, nrB, nrC, i64_w, i32_w]
              rfl
            refine take_ (i := 8) (N := some 195) (v := ?_) (a' := ?_) (lb 10 511) rfl rfl (by kernel_rfl) (fun _ _ _ h => h) (Or.inl ⟨by rfl, ?_⟩) hHeld ?_ ?_
            rotate_left
            · rintro w' ⟨s0, s1⟩
              go_simp
              with_reducible rfl
            rotate_left
            · simp only [Act.put, nrA, nrB, nrC, i64_w, i32_w]
              rfl
            refine last_ (i := 9) (N := none) (lb 10 1023) rfl rfl (by kernel_rfl) (by decide) (fun K hK => ?_)
            refine step_upd_no rfl (.tmp 187) (.tmp 191) (.tmp 195) rfl wc.heap.size L PB[k].1 (.iface U z) rfl rfl rfl hJ.out.2.2.2.2.1 HNO.out ?_
            intro w6 hM6 hg6 hs6
            refine hK.out _ _ ?_
            clear hK K
            refine done_ (by kernel_rfl) ?_
            have HM6 := Lib.hid hM6
            have HG6 := Lib.hid (gb_drew hg6)
            clear hHeld hM6 hg6 hs6
            go_wp2
            go_roundw
            case rel => exact ⟨k + 1, _, _, by omega, by go_num, by rw [HTK.out]; exact mo2_new hJ.out HNO.out HXT.out HM6.out HG6.out⟩
            case measure => simp [intOf]; omega
        · obtain rfl : k = PB.length := by omega
          rw [List.take_length] at hJ
          obtain ⟨W3, hW3⟩ : ∃ W3, W3 = wr := ⟨_, rfl⟩
          subst hW3
          obtain ⟨g1, g2, g3, g4, g5, g6, g7, g8, g9⟩ := hJ.out
          have HLT := Lib.hid g1
          have HKY := Lib.hid g2
          have HRT := Lib.hid g3
          have HMI := Lib.hid g4
          have HM3 := Lib.hid g5
          have HB3 := Lib.hid g6
          have HD3 := Lib.hid (HDY.out.mono g8)
          have HLN := Lib.hid (show L.length ≤ 100000 from by have h1 := pw_len T; have h2 := g4.2.2.2.2; have h3 := HW.out; omega)
          have HU3 := Lib.hid g9
          have HMB := Lib.hid g5.lt
          have HML := Lib.hid (show Lo (fr m w.heap.size W3 none) W3.heap.size from fun x y h => ucell_lt (fr_leU g9 x y h))
          clear g1 g2 g3 g4 g5 g6 g7 g8 g9 hJ
          obtain ⟨i0, hi0, hz0, hz1, hz2⟩ := info_parts info100
          have HZ2 := Lib.hid hz2
          clear hz2
          go_wp2_with (first
            | (at_len; refine wpList_lenA rfl _ rfl wc.heap.size L rfl HM3.out ?_)
            | (at_make; refine wpList_make_own _ rfl _ _ 98 rfl W3.heap.size 100 i0 (.pointer none) 1 Tryz.underlying98 hi0 hz0 hz1 .i64 .i64 _ L.length rfl rfl rfl (by rw [HZ2.out]; have := HLN.out; omega) (by have := HLN.out; simp [maxLen]; omega) (Nat.le_refl _) ?_; intro w1 hown1 hg1; have HOW := Lib.hid (Own.of_made (m := fr m w.heap.size W3 none) hown1); have HG1 := Lib.hid hg1; have HM1 := Lib.hid (show MapA w1 wc.heap.size L from grown_heap hg1 HM3.out (fun k' e => by cases e)); clear hown1 hg1)
            | (at_range; refine wpList_rangeA _ rfl _ rfl wc.heap.size L rfl HM1.out ?_))
          go_frame
          have HB1 := Lib.hid (gb_below HG1.out)
          have HS1 := Lib.hid (show wc.heap.size < w1.heap.size from HM1.out.lt)
          go_loopw [22] (fun v wr => ∃ js : List Nat, Hid (js.Nodup ∧ (∀ j ∈ js, j < L.length) ∧ wr.heap[w1.heap.size]? = some (.mapIter (some wc.heap.size) L.length js.toArray L.length) ∧ MapA wr wc.heap.size L ∧ Own ESP (fr m w.heap.size W3 none) 100 1 W3.heap.size wr v (js.map (prT T)) ∧ Below W3.heap.size W3 wr ∧ w1.heap.size < wr.heap.size)) (fun _ wr => leftA wr w1.heap.size L.length)
          case atStart => exact ⟨[], by simp, by simp, al_new rfl, al_old HM1.out, HOW.out.alloc em_ESP _, bl_alloc HB1.out _, by simp⟩
          case round =>
            obtain ⟨js, hX⟩ := hrel
            go_wp2_with (at_next; refine wpList_nextA _ rfl _ rfl wc.heap.size w1.heap.size L js.toArray rfl hX.out.2.2.2.1 hX.out.2.2.1 (by have := HS1.out; omega) ?_ ?_)
            · intro hall
              have HALL := Lib.hid (show (js.map (prT T)).Perm T from by
                have h1 := perm_range hX.out.1 hX.out.2.1 (fun j hj => by have := hall j hj; simpa using this)
                rw [HLT.out] at h1
                have h2 := h1.map (prT T)
                rwa [prT_all] at h2)
              clear hall
              have HAP := Lib.hid (show (js.map (prT T)).Pairwise (fun a b => a.1 ≠ b.1) from by have h := (HALL.out.map (·.1)).nodup_iff.2 HMI.out.1; rwa [List.Nodup, List.pairwise_map] at h)
              have HJL := Lib.hid (show (js.map (prT T)).length < 1000000 from by rw [HALL.out.length_eq, ← HLT.out]; have := HLN.out; omega)
              go_wp2_with (go_at_call 82; refine (newObject_any (m := fr m w.heap.size W3 none) (B := W3.heap.size) ((fr_le (HU3.out.trans ucell_le)).trans (mle_below hX.out.2.2.2.2.2.1)) HML.out hX.out.2.2.2.2.1 HAP.out HJL.out).mono ?_; rintro e w2 ⟨bo, l5, rfl, hb1, hb2, hpm, hso, hown, hg⟩)
              go_ret
              have hB2 : Below W3.heap.size W3 w2 := bl_grown hX.out.2.2.2.2.2.1 hg (fun k e => (hX.out.2.2.2.2.1.lt k e).1)
              have hob := hown.objectE hso (Nat.le_trans hX.out.2.2.2.2.2.1.size hb1) hb2 (HD3.out.mono (fr_old HML.out))
              exact ⟨_, _, ⟨l5, more, rfl, HMI.out.perm (hpm.trans HALL.out), HMD.out⟩, rfl, hob.mono (fr_trans HLO.out HB3.out.size hB2), bl_trans HB3.out hB2⟩
            · intro j hj w2 hns hit hg2 hs2 hen
              have hj2 : j < T.length := by rw [← HLT.out]; exact hj
              obtain ⟨V, y, hs⟩ := (HRT.out j hj hj2).shape'
              have HV := Lib.hid (show RT (fr m w.heap.size W3 none) (.iface V y) (prT T j).2 from by rw [prT_at hj2, ← hs]; exact HRT.out j hj hj2)
              have HKJ := Lib.hid (show L[j].1 = (prT T j).1 from by rw [prT_at hj2]; exact HKY.out j hj hj2)
              rw [hs, HKJ.out] at hen ⊢
              have HIT := Lib.hid hit
              have HG2 := Lib.hid hg2
              have HS2 := Lib.hid hs2
              have HITER := Lib.hid (show ∃ b s se c, wr.heap[w1.heap.size]? = some (.mapIter b s se c) from ⟨_, _, _, _, hX.out.2.2.1⟩)
              have HNJ := Lib.hid (show j ∉ js from by simpa using hns)
              have HO2 := Lib.hid (hX.out.2.2.2.2.1.iter em_ESP hg2 HITER.out)
              have HB2 := Lib.hid (show Below W3.heap.size W3 w2 from hX.out.2.2.2.2.2.1.grown hg2 hX.out.2.2.2.2.2.1.size (fun k e => by cases e; exact HB1.out.size))
              have HM2 := Lib.hid (show MapA w2 wc.heap.size L from grown_heap hg2 hX.out.2.2.2.1 (fun k e => by cases e; have := HS1.out; omega))
              have HJL := Lib.hid (show (js.map (prT T)).length ≤ 100000 from by have h := len_le _ _ hX.out.1 hX.out.2.1; have := HLN.out; simp; omega)
              have hsz2 : w1.heap.size < w2.heap.size := by rw [hs2]; exact hX.out.2.2.2.2.2.2
              clear hns hit hg2 hs2 hs
              go_wp2_with (first
                | (go_at_call 80; refine (nsp_any (prT T j).1 V y _).mono ?_; rintro e w4 ⟨rfl, rfl⟩)
                | (at_builtin; refine wpList_snoc em_ESP rfl _ _ _ rfl rfl _ _ rfl (Snoc.call (y := prT T j) em_ESP HO2.out HML.out (Below.refl _ _) (bl_alloc (Below.refl _ _) _) (esp_newA (HML.out.mono HB2.out.size) HV.out) sl98 rfl (by simp [Value.oneCell']) (by have := HJL.out; omega) (by have := HJL.out; simp [maxLen] at *; omega) HB2.out.size) ?_; intro g5 cap w5 hown5 hg5 hv5 hgg))
              go_roundw
              case rel =>
                have hs5 := hg5.size
                simp at hs5
                have hit5 := grown_heap hg5 (al_old (al_old HIT.out)) (fun k e h => (own_ne_iter HO2.out ⟨_, _, _, _, HIT.out⟩) (by rw [← h]; exact e.symm))
                try rw [List.push_toArray] at hit5
                have hm5 : MapA w5 wc.heap.size L := grown_heap hg5 (al_old (al_old HM2.out)) (fun k e => by have := hv5 k e; have := HMB.out; omega)
                have ho5 := hown5
                rw [List.length_map] at ho5
                refine ⟨js ++ [j], ?_, ?_, hit5, hm5, ?_, bl_grown (bl_alloc (bl_alloc HB2.out _) _) hg5 hv5, by omega⟩
                · refine List.nodup_append.2 ⟨hX.out.1, by simp, fun x hx z hz e => ?_⟩
                  simp at hz; subst hz; subst e; exact HNJ.out hx
                · intro x hx
                  rcases List.mem_append.1 hx with h | h
                  · exact hX.out.2.1 x h
                  · simp at h; subst h; exact hj
                · rw [List.map_append]; simpa using ho5
              case measure =>
                have hit5 := grown_heap hg5 (al_old (al_old HIT.out)) (fun k e h => (own_ne_iter HO2.out ⟨_, _, _, _, HIT.out⟩) (by rw [← h]; exact e.symm))
                rw [leftA_of hit5, leftA_of hX.out.2.2.1]
                have h := len_le _ _ (List.nodup_append.2 ⟨hX.out.1, (by simp : [j].Nodup), fun x hx z hz e => by simp at hz; subst hz; subst e; exact HNJ.out hx⟩) (fun x hx => by
                  rcases List.mem_append.1 hx with h | h
                  · exact hX.out.2.1 x h
                  · simp at h; subst h; exact hj : ∀ x ∈ js ++ [j], x < L.length)
                simp at h ⊢; omega
end Go.Proofs.YtaglgokeejjagaaGreat
