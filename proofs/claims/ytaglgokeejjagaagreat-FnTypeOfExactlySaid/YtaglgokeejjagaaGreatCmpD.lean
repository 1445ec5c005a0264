/- 'Compare' at two types of arrays. -/
import Derived.Test.YtaglgokeejjagaaGreatCmpC
namespace Go.Proofs.YtaglgokeejjagaaGreat
set_option linter.unusedVariables false
set_option linter.unusedSimpArgs false
open Go.RowKit Go.Sort Go.Shelf

set_option maxHeartbeats 8000000 in
set_option maxRecDepth 100000 in
theorem cmp_arr {m : Mem} {w : World} {b b' : Nat} {a a' : Option Addr} {c c' : Nat} {xs ys ds ds' : List Value} {l l' more more' : List ST} (IH : Hid (∀ k, k ∈ l ∨ k ∈ more → CmpOk k))
    (h0 : m ⟨b, 0, none⟩ = some (.slice a l.length c)) (h1 : m ⟨b, 1, none⟩ = some (ds.headD .nilIface)) (lk : lenOk l.length c) (hl : xs.length = l.length)
    (r : RowX m a xs) (e : ∀ i (h1 : i < xs.length) (h2 : i < l.length), RT m xs[i] l[i]) (hd : ds.length = more.length) (h2 : more.length ≤ 1) (e2 : ∀ i (h1 : i < ds.length) (h2 : i < more.length), RT m ds[i] more[i])
    (h0' : m ⟨b', 0, none⟩ = some (.slice a' l'.length c')) (h1' : m ⟨b', 1, none⟩ = some (ds'.headD .nilIface)) (lk' : lenOk l'.length c') (hl' : ys.length = l'.length)
    (r' : RowX m a' ys) (e' : ∀ i (h1 : i < ys.length) (h2 : i < l'.length), RT m ys[i] l'[i]) (hd' : ds'.length = more'.length) (h2' : more'.length ≤ 1) (e2' : ∀ i (h1 : i < ds'.length) (h2 : i < more'.length), RT m ds'[i] more'[i]) (hm : MLe m (ucell w)) :
    Calls Tryz.prog 48 #[.iface 94 (.pointer (some ⟨b, 0, none⟩)), .iface 94 (.pointer (some ⟨b', 0, none⟩))] w (CmpQ (cmpT (.mk 5 [] l more) (.mk 5 [] l' more')) w) := by
  have h : RT m _ _ := .arr h0 h1 lk hl r e hd h2 e2
  have h' : RT m _ _ := .arr h0' h1' lk' hl' r' e' hd' h2' e2'
  have H1 := Lib.hid (unwrap_any h)
  have H1' := Lib.hid (unwrap_any h')
  have H2 := Lib.hid (unwrapR_any h)
  have H2' := Lib.hid (unwrapR_any h')
  have H3 := Lib.hid (fun W => show Calls _ _ _ W (SameP (.int .i64 4) W) from order_any h W)
  have H3' := Lib.hid (fun W => show Calls _ _ _ W (SameP (.int .i64 4) W) from order_any h' W)
  by_cases hb : b = b'
  · subst hb
    rw [← h.inj h', cmpT_self]
    clear h h' h0 h1 lk hl r e hd h2 e2 h0' h1' lk' hl' r' e' hd' h2' e2' hm
    go_enter Tryz.func48, Tryz.ntmps48
    go_wp2_with (first | (go_at_call 67; first | (((with_reducible refine (H1.out _).mono ?_)); rintro e w2 ⟨rfl, hww⟩; have hww := hww.symm; subst hww) | (((with_reducible refine (H1'.out _).mono ?_)); rintro e w2 ⟨rfl, hww⟩; have hww := hww.symm; subst hww)) | (go_at_call 66; first | (((with_reducible refine (H2.out _).mono ?_)); rintro e w2 ⟨rfl, hww⟩; have hww := hww.symm; subst hww) | (((with_reducible refine (H2'.out _).mono ?_)); rintro e w2 ⟨rfl, hww⟩; have hww := hww.symm; subst hww)) | (go_at_call 90; first | (((with_reducible refine (H3.out _).mono ?_)); rintro e w2 ⟨rfl, hww⟩; have hww := hww.symm; subst hww) | (((with_reducible refine (H3'.out _).mono ?_)); rintro e w2 ⟨rfl, hww⟩; have hww := hww.symm; subst hww)))
    rw [eql94_same]
    go_wp2
    go_ret
    exact ⟨rfl, Gr.refl _⟩
  · have HCL := Lib.hid (fun W hW => cmpf_any (w := W) (Lib.hid fun k hk => IH.out k (.inl hk)) lk hl r e lk' hl' r' e' hW)
    rw [cmpT_arr h.nt h'.nt]
    have H0 := Lib.hid h0
    have H0' := Lib.hid h0'
    have HM := Lib.hid hm
    have HP := Lib.hid (eql94_other hb (hm _ _ h0) (hm _ _ h0'))
    have hmix := mix_t
    obtain ⟨n, hn⟩ : ∃ n, n = cmpL l l' := ⟨_, rfl⟩
    rw [← hn] at HCL
    match more, ds, hd, h2, e2, h1, more', ds', hd', h2', e2', h1', h, h' with
    | [], [], _, _, _, h1, [], [], _, _, _, h1', _, _ =>
      have HEQ := Lib.hid (show Ending.returned (.int .i64 n) = .returned (.int .i64 (cmpL l l')) by rw [hn])
      have q1 := ucell_le _ _ (hm _ _ h1)
      have q1' := ucell_le _ _ (hm _ _ h1')
      have c0 := ucell_le _ _ (hm _ _ h0)
      have c0' := ucell_le _ _ (hm _ _ h0')
      clear h0 h1 lk hl r e h0' h1' lk' hl' r' e' hm
      simp only [← hn]
      clear hn
      go_enter Tryz.func48, Tryz.ntmps48
      go_wp2_with (first | (go_at_call 67; first | (((with_reducible refine (H1.out _).mono ?_)); rintro e w2 ⟨rfl, hww⟩; have hww := hww.symm; subst hww) | (((with_reducible refine (H1'.out _).mono ?_)); rintro e w2 ⟨rfl, hww⟩; have hww := hww.symm; subst hww)) | (go_at_call 66; first | (((with_reducible refine (H2.out _).mono ?_)); rintro e w2 ⟨rfl, hww⟩; have hww := hww.symm; subst hww) | (((with_reducible refine (H2'.out _).mono ?_)); rintro e w2 ⟨rfl, hww⟩; have hww := hww.symm; subst hww)) | (go_at_call 90; first | (((with_reducible refine (H3.out _).mono ?_)); rintro e w2 ⟨rfl, hww⟩; have hww := hww.symm; subst hww) | (((with_reducible refine (H3'.out _).mono ?_)); rintro e w2 ⟨rfl, hww⟩; have hww := hww.symm; subst hww)))
      rw [HP.out]
      go_wp2
      have HG := Lib.hid (Gr.refl w)
      clear c0 c0'
      have c0 := HG.out.cell (ucell_le _ _ (HM.out _ _ H0.out))
      have c1 := HG.out.cell (ucell_le _ _ (HM.out _ _ H0'.out))
      have A0 := fun n os => (gr_grow w n os).cell c0
      have B0 := fun n os => (gr_grow w n os).cell c1
      have HC91 := Lib.hid (fun n0 os => show Calls Tryz.prog 91 #[.slice a l.length c, .slice a' l'.length c', .func (.func 48) #[] #[]] (grow (w.drewN n0) os) (fun e w' => e = .returned (.int .i64 n) ∧ Gr (grow (w.drewN n0) os) w') from HCL.out _ (HM.out.trans (mleU (HG.out.trans (gr_grow w n0 os)).below)))
      clear c0 c1
      refine wp_region_quiet_grown hmix (by kernel_rfl) ?_
      repeat (go_big_quiet_step ((go_at_call 91; with_reducible exact quiet_gr (v := .int .i64 n) (HC91.out _ _))))
      refine wpQuiet_nil ?_
      intro _ hw'
      obtain ⟨⟨nq, osq⟩, hw''⟩ := hw'
      subst hw''
      go_wp2
      go_ret
      exact ⟨ret_int64 (by first | rfl | exact HN.out), HG.out.trans (gr_grow _ _ _)⟩
    | [], [], _, _, _, h1, [d'], [dv'], _, _, e2', h1', _, _ =>
      obtain ⟨T, u, hs⟩ := (e2' 0 (by simp) (by simp)).shape'
      have q1 := ucell_le _ _ (hm _ _ h1)
      have q1' := ucell_le _ _ (hm _ _ h1')
      simp only [List.headD_cons, List.getElem_cons_zero] at hs q1'
      rw [hs] at q1'
      clear h0 h1 lk hl r e h0' h1' lk' hl' r' e' hm hs e2'
      go_enter Tryz.func48, Tryz.ntmps48
      go_wp2_with (first | (go_at_call 67; first | (((with_reducible refine (H1.out _).mono ?_)); rintro e w2 ⟨rfl, hww⟩; have hww := hww.symm; subst hww) | (((with_reducible refine (H1'.out _).mono ?_)); rintro e w2 ⟨rfl, hww⟩; have hww := hww.symm; subst hww)) | (go_at_call 66; first | (((with_reducible refine (H2.out _).mono ?_)); rintro e w2 ⟨rfl, hww⟩; have hww := hww.symm; subst hww) | (((with_reducible refine (H2'.out _).mono ?_)); rintro e w2 ⟨rfl, hww⟩; have hww := hww.symm; subst hww)) | (go_at_call 90; first | (((with_reducible refine (H3.out _).mono ?_)); rintro e w2 ⟨rfl, hww⟩; have hww := hww.symm; subst hww) | (((with_reducible refine (H3'.out _).mono ?_)); rintro e w2 ⟨rfl, hww⟩; have hww := hww.symm; subst hww)))
      rw [HP.out]
      go_wp2
      go_ret
      exact ⟨rfl, Gr.refl _⟩
    | [d], [dv], _, _, e2, h1, [], [], _, _, _, h1', _, _ =>
      obtain ⟨T, u, hs⟩ := (e2 0 (by simp) (by simp)).shape'
      have q1 := ucell_le _ _ (hm _ _ h1)
      have q1' := ucell_le _ _ (hm _ _ h1')
      simp only [List.headD_cons, List.getElem_cons_zero] at hs q1
      rw [hs] at q1
      clear h0 h1 lk hl r e h0' h1' lk' hl' r' e' hm hs e2
      go_enter Tryz.func48, Tryz.ntmps48
      go_wp2_with (first | (go_at_call 67; first | (((with_reducible refine (H1.out _).mono ?_)); rintro e w2 ⟨rfl, hww⟩; have hww := hww.symm; subst hww) | (((with_reducible refine (H1'.out _).mono ?_)); rintro e w2 ⟨rfl, hww⟩; have hww := hww.symm; subst hww)) | (go_at_call 66; first | (((with_reducible refine (H2.out _).mono ?_)); rintro e w2 ⟨rfl, hww⟩; have hww := hww.symm; subst hww) | (((with_reducible refine (H2'.out _).mono ?_)); rintro e w2 ⟨rfl, hww⟩; have hww := hww.symm; subst hww)) | (go_at_call 90; first | (((with_reducible refine (H3.out _).mono ?_)); rintro e w2 ⟨rfl, hww⟩; have hww := hww.symm; subst hww) | (((with_reducible refine (H3'.out _).mono ?_)); rintro e w2 ⟨rfl, hww⟩; have hww := hww.symm; subst hww)))
      rw [HP.out]
      go_wp2
      go_ret
      exact ⟨rfl, Gr.refl _⟩
    | [d], [dv], _, _, e2, h1, [d'], [dv'], _, _, e2', h1', _, _ =>
      have f0 : RT m dv d := e2 0 (by simp) (by simp)
      have f0' : RT m dv' d' := e2' 0 (by simp) (by simp)
      have HC48 := Lib.hid (fun n os => show Calls Tryz.prog 48 #[dv, dv'] (grow (w.drewN n) os) (fun e w' => e = .returned (.int .i64 (cmpT d d')) ∧ Gr (grow (w.drewN n) os) w') from IH.out d (.inr (by simp)) _ m _ _ _ f0 f0' (hm.trans (mleU (gr_grow w n os).below)))
      obtain ⟨T, u, hs⟩ := f0.shape'
      obtain ⟨T', u', hs'⟩ := f0'.shape'
      have q1 := ucell_le _ _ (hm _ _ h1)
      have q1' := ucell_le _ _ (hm _ _ h1')
      simp only [List.headD_cons] at q1 q1'
      rw [hs] at q1 HC48
      rw [hs'] at q1' HC48
      have A0 := fun n os => (gr_grow w n os).cell q1
      have B0 := fun n os => (gr_grow w n os).cell q1'
      simp only [← hn]
      obtain ⟨N, hN⟩ : ∃ N, N = (if cmpT d d' = 0 then n else cmpT d d') := ⟨_, rfl⟩
      rw [← hN]
      have HEQ0 := Lib.hid hN
      clear h0 h1 lk hl r e h0' h1' lk' hl' r' e' hm hs hs' e2 e2' f0 f0' hn hN
      generalize cmpT d d' = n0 at HC48 HEQ0
      go_enter Tryz.func48, Tryz.ntmps48
      go_wp2_with (first | (go_at_call 67; first | (((with_reducible refine (H1.out _).mono ?_)); rintro e w2 ⟨rfl, hww⟩; have hww := hww.symm; subst hww) | (((with_reducible refine (H1'.out _).mono ?_)); rintro e w2 ⟨rfl, hww⟩; have hww := hww.symm; subst hww)) | (go_at_call 66; first | (((with_reducible refine (H2.out _).mono ?_)); rintro e w2 ⟨rfl, hww⟩; have hww := hww.symm; subst hww) | (((with_reducible refine (H2'.out _).mono ?_)); rintro e w2 ⟨rfl, hww⟩; have hww := hww.symm; subst hww)) | (go_at_call 90; first | (((with_reducible refine (H3.out _).mono ?_)); rintro e w2 ⟨rfl, hww⟩; have hww := hww.symm; subst hww) | (((with_reducible refine (H3'.out _).mono ?_)); rintro e w2 ⟨rfl, hww⟩; have hww := hww.symm; subst hww)))
      rw [HP.out]
      go_wp2
      refine wp_region_quiet_grown hmix (by kernel_rfl) ?_
      repeat (go_big_quiet_step ((go_at_call 48; with_reducible exact quiet_gr (v := .int .i64 n0) (HC48.out _ _))))
      refine wpQuiet_nil ?_
      intro _ hw'
      obtain ⟨⟨nq, osq⟩, hw''⟩ := hw'
      subst hw''
      have HG := Lib.hid (gr_grow w nq osq)
      clear A0 B0 q1 q1' HC48
      generalize grow (w.drewN nq) osq = w1 at HG ⊢
      by_cases hz : n0 = 0
      · have hz1 : (n0 != 0) = false := by simp [hz]
        have HN := Lib.hid (show n = N by rw [HEQ0.out, if_pos hz])
        clear hz
        go_wp2
        have c0 := HG.out.cell (ucell_le _ _ (HM.out _ _ H0.out))
        have c1 := HG.out.cell (ucell_le _ _ (HM.out _ _ H0'.out))
        have A0 := fun n os => (gr_grow w1 n os).cell c0
        have B0 := fun n os => (gr_grow w1 n os).cell c1
        have HC91 := Lib.hid (fun n0 os => show Calls Tryz.prog 91 #[.slice a l.length c, .slice a' l'.length c', .func (.func 48) #[] #[]] (grow (w1.drewN n0) os) (fun e w' => e = .returned (.int .i64 n) ∧ Gr (grow (w1.drewN n0) os) w') from HCL.out _ (HM.out.trans (mleU (HG.out.trans (gr_grow w1 n0 os)).below)))
        clear c0 c1
        refine wp_region_quiet_grown hmix (by kernel_rfl) ?_
        repeat (go_big_quiet_step ((go_at_call 91; with_reducible exact quiet_gr (v := .int .i64 n) (HC91.out _ _))))
        refine wpQuiet_nil ?_
        intro _ hw'
        obtain ⟨⟨nq, osq⟩, hw''⟩ := hw'
        subst hw''
        go_wp2
        go_ret
        exact ⟨ret_int64 (by first | rfl | exact HN.out), HG.out.trans (gr_grow _ _ _)⟩
      · have hz1 : (n0 != 0) = true := by simpa using hz
        have HN := Lib.hid (show n0 = N by rw [HEQ0.out, if_neg hz])
        clear hz
        go_wp2
        go_ret
        exact ⟨ret_int64 HN.out, HG.out⟩
    | _ :: _ :: _, _, _, h2, _, _, _, _, _, _, _, _, _, _ => simp at h2
    | _, _, _, _, _, _, _ :: _ :: _, _, _, h2', _, _, _, _ => simp at h2'
    | [], _ :: _, hd, _, _, _, _, _, _, _, _, _, _, _ => simp at hd
    | [_], [], hd, _, _, _, _, _, _, _, _, _, _, _ => simp at hd
    | [_], _ :: _ :: _, hd, _, _, _, _, _, _, _, _, _, _, _ => simp at hd
    | _, _, _, _, _, _, [], _ :: _, hd', _, _, _, _, _ => simp at hd'
    | _, _, _, _, _, _, [_], [], hd', _, _, _, _, _ => simp at hd'
    | _, _, _, _, _, _, [_], _ :: _ :: _, hd', _, _, _, _, _ => simp at hd'
end Go.Proofs.YtaglgokeejjagaaGreat
