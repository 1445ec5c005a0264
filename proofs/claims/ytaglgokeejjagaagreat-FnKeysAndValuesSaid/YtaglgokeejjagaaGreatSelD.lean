/- 'Select' at a type that is no any type. -/
import Derived.Test.YtaglgokeejjagaaGreatISel
import Derived.Test.YtaglgokeejjagaaGreatTyW
import Derived.Test.YtaglgokeejjagaaGreatOrC
namespace Go.Proofs.YtaglgokeejjagaaGreat
set_option linter.unusedVariables false
set_option linter.unusedSimpArgs false
open Go.RowKit Go.Sort

/-- A fixed result, blocks may be laid. -/
def FxP (v : Value) (w : World) (e : Ending) (w' : World) : Prop := e = .returned v ∧ Gr w w'
set_option maxHeartbeats 2000000 in
set_option maxRecDepth 100000 in
theorem ty_text {x : ByteArray} (w : World) : Calls Tryz.prog 51 #[.iface 9 (.string x)] w (FxP (.iface 93 (.agg #[])) w) := by
  go_enter Tryz.func51, Tryz.ntmps51
  go_wp2_with (first | (go_at_call 76; refine (new76 _).mono ?_; rintro e w2 ⟨rfl, g⟩) | go_in)
  go_ret
  exact ⟨rfl, g⟩
set_option maxHeartbeats 2000000 in
set_option maxRecDepth 100000 in
theorem ty_numb {x : ByteArray} (w : World) : Calls Tryz.prog 51 #[.iface 119 (.string x)] w (FxP (.iface 92 (.agg #[])) w) := by
  go_enter Tryz.func51, Tryz.ntmps51
  go_wp2_with (first | (go_at_call 75; refine (new75 _).mono ?_; rintro e w2 ⟨rfl, g⟩) | go_in)
  go_ret
  exact ⟨rfl, g⟩
/-- What 'Select' gives, blocks may be laid. -/
def SlQ (m : Mem) (P : Option ST → Prop) (w : World) (e : Ending) (w' : World) : Prop := ∃ y o, P o ∧ e = .returned y ∧ RO m y o ∧ Gr w w'
theorem selC_slq {s : ST} {x : Value} {P : Option ST → Prop} (h : ∀ (m : Mem) (r : Value) (w : World), RT m r s → MLe m (ucell w) → Calls Tryz.prog 45 #[r, x] w (SlQ m P w)) : SelC s x P := fun m r w h1 h2 =>
  (h m r w h1 h2).mono fun e w' ⟨y, o, hp, e1, e2, hg⟩ => ⟨y, o, hp, e1, e2.mono (fr_old (fun a x hx => ucell_lt (h2 a x hx))), hg.below⟩
set_option maxHeartbeats 4000000 in
set_option maxRecDepth 100000 in
theorem sel_flat {m : Mem} {w : World} {v x : Value} {s : ST} (h : RT m v s) (hk : s.kind = 1 ∨ s.kind = 2 ∨ s.kind = 3 ∨ s.kind = 4) : Calls Tryz.prog 45 #[v, x] w (SlQ m (· = none) w) := by
  have H1 := Lib.hid (unwrap_any h)
  have H2 := Lib.hid (unwrapR_any h)
  cases h with
  | null | bool | num | str =>
    clear hk
    go_enter Tryz.func45, Tryz.ntmps45
    go_wp2_with (first | (go_at_call 67; refine (H1.out _).mono ?_; rintro e w2 ⟨rfl, hww⟩; have hww := hww.symm; subst hww) | (go_at_call 66; refine (H2.out _).mono ?_; rintro e w2 ⟨rfl, hww⟩; have hww := hww.symm; subst hww))
    go_ret
    exact ⟨_, none, rfl, rfl, rfl, Gr.refl _⟩
  | _ => exact absurd hk (by simp [ST.kind])
set_option maxHeartbeats 4000000 in
set_option maxRecDepth 100000 in
theorem sel_arrs {m : Mem} {w : World} {v : Value} {k : ByteArray} {s : ST} (h : RT m v s) (hk : s.kind = 5) : Calls Tryz.prog 45 #[v, .iface 9 (.string k)] w (SlQ m (· = none) w) := by
  have H1 := Lib.hid (unwrap_any h)
  have H2 := Lib.hid (unwrapR_any h)
  cases h with
  | @arr b c a xs ds kids more h0 h1 lk hl r e hd h2 e2 =>
    clear h0 h1 lk hl r e hd h2 e2 hk
    go_enter Tryz.func45, Tryz.ntmps45
    go_wp2_with (first | (go_at_call 67; refine (H1.out _).mono ?_; rintro e w2 ⟨rfl, hww⟩; have hww := hww.symm; subst hww) | (go_at_call 66; refine (H2.out _).mono ?_; rintro e w2 ⟨rfl, hww⟩; have hww := hww.symm; subst hww))
    go_ret
    exact ⟨_, none, rfl, rfl, rfl, Gr.refl _⟩
  | _ => exact absurd hk (by simp [ST.kind])
set_option maxHeartbeats 4000000 in
set_option maxRecDepth 100000 in
theorem sel_set {m : Mem} {w : World} {v x tv : Value} {t ts : ST} (h : RT m v (.mk 7 [] [t] [])) (hty : ∀ W, Calls Tryz.prog 51 #[x] W (FxP tv W)) (hts : RT m tv ts) (hm : MLe m (ucell w)) (hn : WS t < 1000000000) :
    Calls Tryz.prog 45 #[v, x] w (SlQ m (fun o => o = none ∨ o = some t ∨ o = some ts) w) := by
  have H1 := Lib.hid (unwrap_any h)
  have H2 := Lib.hid (unwrapR_any h)
  have HTY := Lib.hid hty
  have HTS := Lib.hid hts
  have HM := Lib.hid hm
  cases h with
  | @set b x0 _ h0 he =>
    have HC := Lib.hid (fun (W : World) (hW : MLe m (ucell W)) => compare_any t ts m x0 tv W he hts hW)
    have HX := Lib.hid he
    have H0 := Lib.hid h0
    have c0 := ucell_le _ _ (hm _ _ h0)
    generalize cmpT t ts = n at HC
    have HCC := Lib.hid (fun (W : World) (hW : MLe m (ucell W)) => show Calls Tryz.prog 48 #[x0, tv] W (fun e w' => e = .returned (.int .i64 n) ∧ Gr W w') from HC.out W hW)
    clear hty h0 HC
    by_cases hz : n = 0
    · subst hz
      clear he hts hm
      go_enter Tryz.func45, Tryz.ntmps45
      go_wp2_with (first
        | (go_at_call 67; refine (H1.out _).mono ?_; rintro e w2 ⟨rfl, hww⟩; have hww := hww.symm; subst hww)
        | (go_at_call 66; refine (H2.out _).mono ?_; rintro e w2 ⟨rfl, hww⟩; have hww := hww.symm; subst hww)
        | (go_at_call 51; refine (HTY.out _).mono ?_; rintro e w3 ⟨rfl, hg⟩; have HG := Lib.hid hg; clear hg; have c1 := HG.out.cell c0)
        | (go_at_call 48; refine (HCC.out _ (HM.out.trans (mleU HG.out.below))).mono ?_; rintro e w4 ⟨rfl, hg⟩; have HG2 := Lib.hid (HG.out.trans hg); have c2 := hg.cell c1; clear hg))
      go_ret
      exact ⟨_, some t, .inr (.inl rfl), rfl, HX.out, HG2.out⟩
    · have hz' : (n == 0) = false := by simpa using hz
      by_cases h8 : t.kind = 8
      · cases he with
        | @any c a xs l lk hl r e =>
          have HK := Lib.hid (fun (W : World) (hW : MLe m (ucell W)) => contains70 (w := W) lk hl r e hts hW (by have := (WS_lens 8 [] l []).2.1; omega))
          clear lk hl r e hts hm
          go_enter Tryz.func45, Tryz.ntmps45
          go_wp2_with (first
            | (go_at_call 67; refine (H1.out _).mono ?_; rintro e w2 ⟨rfl, hww⟩; have hww := hww.symm; subst hww)
            | (go_at_call 66; refine (H2.out _).mono ?_; rintro e w2 ⟨rfl, hww⟩; have hww := hww.symm; subst hww)
            | (go_at_call 51; refine (HTY.out _).mono ?_; rintro e w3 ⟨rfl, hg⟩; have HG := Lib.hid hg; clear hg; have c1 := HG.out.cell c0)
            | (go_at_call 48; refine (HCC.out _ (HM.out.trans (mleU HG.out.below))).mono ?_; rintro e w4 ⟨rfl, hg⟩; have HG2 := Lib.hid (HG.out.trans hg); have c2 := hg.cell c1; clear hg)
            | (go_at_call 70; refine (HK.out _ (HM.out.trans (mleU HG2.out.below))).mono ?_; rintro e w5 ⟨b, rfl, hb1, hb2, hg⟩; have HG3 := Lib.hid (HG2.out.trans hg); clear hb1 hb2 hg; cases b))
          · go_ret
            exact ⟨_, none, .inl rfl, rfl, rfl, HG3.out⟩
          · go_ret
            exact ⟨_, some ts, .inr (.inr rfl), rfl, HTS.out, HG3.out⟩
        | _ => exact absurd h8 (by simp [ST.kind])
      · obtain ⟨T, u, rfl, _⟩ := he.shape8
        have HT := Lib.hid (he.no110 h8)
        clear he hts hm
        go_enter Tryz.func45, Tryz.ntmps45
        go_wp2_with (first
          | (go_at_call 67; refine (H1.out _).mono ?_; rintro e w2 ⟨rfl, hww⟩; have hww := hww.symm; subst hww)
          | (go_at_call 66; refine (H2.out _).mono ?_; rintro e w2 ⟨rfl, hww⟩; have hww := hww.symm; subst hww)
          | (go_at_call 51; refine (HTY.out _).mono ?_; rintro e w3 ⟨rfl, hg⟩; have HG := Lib.hid hg; clear hg; have c1 := HG.out.cell c0)
          | (go_at_call 48; refine (HCC.out _ (HM.out.trans (mleU HG.out.below))).mono ?_; rintro e w4 ⟨rfl, hg⟩; have HG2 := Lib.hid (HG.out.trans hg); have c2 := hg.cell c1; clear hg))
        rw [assert110 HT.out]
        go_wp2_with fail
        go_ret
        exact ⟨_, none, .inl rfl, rfl, rfl, HG2.out⟩
end Go.Proofs.YtaglgokeejjagaaGreat
/- 'Select' at an object type and a text. -/
namespace Go.Proofs.YtaglgokeejjagaaGreat
set_option linter.unusedVariables false
set_option linter.unusedSimpArgs false
open Go.RowKit Go.Sort

def CtP (d : ST) : Prop := (d.kind = 8 → .mk 4 [] [] [] ∈ d.kids ∨ d.kids = []) ∧ (d.kind ≠ 8 → d = .mk 4 [] [] [])
/-- Does the type of keys hold texts? -/
noncomputable def ctB (d : ST) : Bool := @decide (CtP d) (Classical.propDecidable _)
theorem ctB_false {d : ST} {k : ByteArray} (hn : NT d) (hs : Sd d) (ha : Na d) (h : ctB d = false) : ¬ InP d (.mk 4 k [] []) := by
  have hc : ¬ CtP d := by unfold ctB at h; exact @of_decide_eq_false _ (Classical.propDecidable _) h
  refine no_text hn hs ha ⟨fun h8 => ⟨fun e => hc ⟨fun _ => .inr e, fun h => absurd h8 h⟩, fun _ hm => hc ⟨fun _ => .inl hm, fun h => absurd h8 h⟩⟩, fun h8 e => hc ⟨fun h => absurd h h8, fun _ => e⟩⟩
theorem contains_text {m : Mem} {w : World} {x : Value} {d : ST} (h : RT m x d) (hs : Sd d) (hm : MLe m (ucell w)) (hn : WS d < 1000000000) : Calls Tryz.prog 104 #[x, .iface 93 (.agg #[])] w (fun e w' => e = .returned (.bool (ctB d)) ∧ Gr w w') := by
  refine (contains_any h .str hm hn).mono ?_
  rintro e w' ⟨b, rfl, h1, h2, hg⟩
  refine ⟨?_, hg⟩
  have : ctB d = b := by
    unfold ctB
    cases b with
    | true => exact @decide_eq_true _ (Classical.propDecidable _) (h2 rfl)
    | false =>
      refine @decide_eq_false _ (Classical.propDecidable _) fun hc => ?_
      have h3 := h1 rfl
      by_cases h8 : d.kind = 8
      · obtain ⟨g1, g2⟩ := h3.1 h8
        rcases hc.1 h8 with h | h
        · exact g2 (hs.out.1 h8) h
        · exact g1 h
      · exact h3.2 h8 (hc.2 h8)
  rw [this]

set_option maxHeartbeats 4000000 in
set_option maxRecDepth 100000 in
theorem osel_no0 {m : Mem} {w : World} {b c : Nat} {a : Option Addr} {ps : List Nat} {ks : List AK} {n : Nat} {key : ByteArray} (h0 : m ⟨b, 0, none⟩ = some (.slice a n c)) (h1 : m ⟨b, 1, none⟩ = some (.pointer none)) (lk : lenOk n c) (hp : ps.length = n) (hk : ks.length = n)
    (r : RowX m a (ps.map fun p => .pointer (some ⟨p, 0, none⟩))) (e0 : ∀ i (h : i < ps.length) (h1 : i < ks.length), m ⟨ps[i], 0, none⟩ = some ks[i].v) (so : ks.Pairwise AK.lt) (hm : MLe m (ucell w)) (hn : n < 1000000000) (hno : AK.text key ∉ ks) :
    Calls Tryz.prog 69 #[.pointer (some ⟨b, 0, none⟩), .iface 9 (.string key)] w (SlQ m (· = none) w) := by
  have HB := Lib.hid (fun (W : World) (hW : MLe m (ucell W)) => show Calls Tryz.prog 102 #[.slice a n c, .iface 9 (.string key), .func (.func 103) #[] #[]] W (BpQ ks (.text key) W) from by
    rw [← hk] at lk ⊢; exact bsP_any lk (by omega) r e0 so hW (by omega))
  have HJ := Lib.hid (show ∀ i b, (b = true → ∃ h : i < ks.length, ks[i] = AK.text key) → b = false from fun i b h1 => by
    cases b with
    | false => rfl
    | true => obtain ⟨h3, h4⟩ := h1 rfl; exact absurd (by rw [← h4]; exact List.getElem_mem _) hno)
  obtain ⟨l1, l2⟩ := lk
  have HM := Lib.hid hm
  have H1 := Lib.hid h1
  have c0 := ucell_le _ _ (hm _ _ h0)
  have hmix := mix_t
  clear h0 h1 hp r e0 so hm hk hno
  go_enter Tryz.func69, Tryz.ntmps69
  go_wp2_with (go_at_call 102; refine (HB.out _ HM.out).mono ?_; rintro e w2 ⟨i, b, rfl, hi1, hi2, hi3, hg⟩; have HG := Lib.hid hg; obtain rfl := HJ.out i b hi2; clear hi1 hi2 hi3 hg)
  have A0 := fun n os => (gr_grow w2 n os).cell (HG.out.cell (ucell_le _ _ (HM.out _ _ H1.out)))
  refine wp_region_quiet_grown hmix (by kernel_rfl) ?_
  repeat (go_big_quiet_step (fail))
  refine wpQuiet_nil ?_
  intro _ hw'
  obtain ⟨⟨nq, osq⟩, hw''⟩ := hw'
  subst hw''
  have HGW := Lib.hid (HG.out.trans (gr_grow w2 nq osq))
  clear A0
  generalize grow (w2.drewN nq) osq = W at HGW ⊢
  go_wp2_with fail
  go_ret
  exact ⟨_, none, rfl, rfl, rfl, HGW.out⟩
set_option maxHeartbeats 4000000 in
set_option maxRecDepth 100000 in
theorem osel_no1 {m : Mem} {w : World} {b c q : Nat} {a : Option Addr} {ps : List Nat} {ks : List AK} {n : Nat} {key : ByteArray} {kv vv : Value} {d d' : ST} (h0 : m ⟨b, 0, none⟩ = some (.slice a n c)) (h1 : m ⟨b, 1, none⟩ = some (.pointer (some ⟨q, 0, none⟩))) (lk : lenOk n c) (hp : ps.length = n) (hk : ks.length = n)
    (r : RowX m a (ps.map fun p => .pointer (some ⟨p, 0, none⟩))) (e0 : ∀ i (h : i < ps.length) (h1 : i < ks.length), m ⟨ps[i], 0, none⟩ = some ks[i].v) (so : ks.Pairwise AK.lt) (hm : MLe m (ucell w)) (hn : n < 1000000000) (hno : AK.text key ∉ ks)
    (q0 : m ⟨q, 0, none⟩ = some kv) (q1 : m ⟨q, 1, none⟩ = some vv) (hkv : RT m kv d) (hvv : RT m vv d') (hs : Sd d) (hw : WS d < 1000000000) :
    Calls Tryz.prog 69 #[.pointer (some ⟨b, 0, none⟩), .iface 9 (.string key)] w (SlQ m (fun o => o = some d' ∨ ctB d = false ∧ o = none) w) := by
  have HB := Lib.hid (fun (W : World) (hW : MLe m (ucell W)) => show Calls Tryz.prog 102 #[.slice a n c, .iface 9 (.string key), .func (.func 103) #[] #[]] W (BpQ ks (.text key) W) from by
    rw [← hk] at lk ⊢; exact bsP_any lk (by omega) r e0 so hW (by omega))
  have HJ := Lib.hid (show ∀ i b, (b = true → ∃ h : i < ks.length, ks[i] = AK.text key) → b = false from fun i b h1 => by
    cases b with
    | false => rfl
    | true => obtain ⟨h3, h4⟩ := h1 rfl; exact absurd (by rw [← h4]; exact List.getElem_mem _) hno)
  have HC := Lib.hid (fun (W : World) (hW : MLe m (ucell W)) => contains_text (w := W) hkv hs hW hw)
  have HY := Lib.hid (fun (W : World) => ty_text (x := key) W)
  obtain ⟨l1, l2⟩ := lk
  have HM := Lib.hid hm
  have H1 := Lib.hid h1
  have HQ0 := Lib.hid q0
  have HQ1 := Lib.hid q1
  have HV := Lib.hid hvv
  have c0 := ucell_le _ _ (hm _ _ h0)
  have hmix := mix_t
  clear h0 h1 hp r e0 so hm hk hno q0 q1 hkv hvv hs
  generalize hbb : ctB d = bb at HC
  have HBB := Lib.hid hbb
  clear hbb
  go_enter Tryz.func69, Tryz.ntmps69
  go_wp2_with (go_at_call 102; refine (HB.out _ HM.out).mono ?_; rintro e w2 ⟨i, b, rfl, hi1, hi2, hi3, hg⟩; have HG := Lib.hid hg; obtain rfl := HJ.out i b hi2; clear hi1 hi2 hi3 hg)
  have A0 := fun n os => (gr_grow w2 n os).cell (HG.out.cell (ucell_le _ _ (HM.out _ _ H1.out)))
  have B0 := fun n os => (gr_grow w2 n os).cell (HG.out.cell (ucell_le _ _ (HM.out _ _ HQ0.out)))
  have HCQ := Lib.hid (fun n os => show Calls Tryz.prog 104 #[kv, .iface 93 (.agg #[])] (grow (w2.drewN n) os) (fun e w' => e = .returned (.bool bb) ∧ Gr (grow (w2.drewN n) os) w') from HC.out _ (HM.out.trans (mleU (HG.out.trans (gr_grow w2 n os)).below)))
  have HYQ := Lib.hid (fun n os => show Calls Tryz.prog 51 #[.iface 9 (.string key)] (grow (w2.drewN n) os) (fun e w' => e = .returned (.iface 93 (.agg #[])) ∧ Gr (grow (w2.drewN n) os) w') from HY.out _)
  refine wp_region_quiet_grown hmix (by kernel_rfl) ?_
  repeat (go_big_quiet_step (first | (go_at_call 51; with_reducible exact quiet_gr (HYQ.out _ _)) | (go_at_call 104; with_reducible exact quiet_gr (HCQ.out _ _))))
  refine wpQuiet_nil ?_
  intro _ hw'
  obtain ⟨⟨nq, osq⟩, hw''⟩ := hw'
  subst hw''
  have HGW := Lib.hid (HG.out.trans (gr_grow w2 nq osq))
  clear A0 B0
  generalize grow (w2.drewN nq) osq = W at HGW ⊢
  have d0 := HGW.out.cell (ucell_le _ _ (HM.out _ _ H1.out))
  have d1 := HGW.out.cell (ucell_le _ _ (HM.out _ _ HQ1.out))
  cases bb
  · go_wp2_with fail
    go_ret
    exact ⟨_, none, by first | exact Or.inr rfl | exact Or.inr ⟨HBB.out, rfl⟩, rfl, rfl, HGW.out⟩
  · go_wp2_with fail
    go_ret
    exact ⟨_, some d', by first | exact Or.inl rfl | rfl, rfl, HV.out, HGW.out⟩
set_option maxHeartbeats 4000000 in
set_option maxRecDepth 100000 in
theorem sel_objn {m : Mem} {w : World} {v : Value} {key : ByteArray} {s : ST} {P : Option ST → Prop} (h : RT m v s) (hk : s.kind = 6) (hm : MLe m (ucell w))
    (HA : ∀ b W, v = .iface 80 (.pointer (some ⟨b, 0, none⟩)) → MLe m (ucell W) → Calls Tryz.prog 69 #[.pointer (some ⟨b, 0, none⟩), .iface 9 (.string key)] W (SlQ m P W)) :
    Calls Tryz.prog 45 #[v, .iface 9 (.string key)] w (SlQ m P w) := by
  have H1 := Lib.hid (unwrap_any h)
  have H2 := Lib.hid (unwrapR_any h)
  cases h with
  | @obj b c a ps xs ks' kids dv ds more' h0 h1 lk hp hx hk r e0 e1 e so hd e2 =>
    have HA := Lib.hid (fun (W : World) (hW : MLe m (ucell W)) => HA b W rfl hW)
    have HM := Lib.hid hm
    clear h0 h1 lk hp hx r e0 e1 e so hd e2 hm hk
    go_enter Tryz.func45, Tryz.ntmps45
    go_wp2_with (first
      | (go_at_call 67; refine (H1.out _).mono ?_; rintro e w2 ⟨rfl, hww⟩; have hww := hww.symm; subst hww)
      | (go_at_call 66; refine (H2.out _).mono ?_; rintro e w2 ⟨rfl, hww⟩; have hww := hww.symm; subst hww)
      | (go_at_call 69; refine (HA.out _ HM.out).mono ?_; rintro e w3 ⟨r, o, hp, rfl, hr, hg3⟩; have HP := Lib.hid hp; have HR := Lib.hid hr; have HG3 := Lib.hid hg3; clear hp hr hg3))
    go_ret
    exact ⟨_, o, HP.out, rfl, HR.out, HG3.out⟩
  | _ => exact absurd hk (by simp [ST.kind])
/-- What 'Select' gives at an object type and a text. -/
theorem sel_object {s : ST} {key : ByteArray} (h6 : s.kind = 6) (hsd : Sd s) (hna : Na s) (hw : WS s ≤ 1000000) : SelC s (.iface 9 (.string key)) (SelR s (.iface 9 (.string key))) := by
  refine selC_slq fun m v w h hm => ?_
  refine sel_objn h h6 hm fun b W hv hW => ?_
  cases h with
  | @obj b' c a ps xs ks kids dv ds more h0 h1 lk hp hx hk r e0 e1 e so hd e2 =>
    cases hv
    have hlen : kids.length < 1000000000 := by have := (WS_lens 6 (ks.map kyOf) kids more).2.1; omega
    by_cases hin : AK.text key ∈ ks
    · obtain ⟨j, hj, ej⟩ := List.getElem_of_mem hin
      refine (osel_yes h0 lk hp hx hk r e0 e1 e so hW hlen (j := j) (by omega) ej).mono ?_
      rintro e' w' ⟨y, rfl, hr, hg⟩
      exact ⟨y, _, selR_obj (AK.nodup so) hk hj ej, rfl, hr, hg⟩
    · rcases hd with ⟨rfl, rfl⟩ | ⟨q, rfl, hd1, hd2, hq⟩
      · refine (osel_no0 h0 h1 lk hp hk r e0 so hW hlen hin).mono ?_
        rintro e' w' ⟨y, o, rfl, rfl, hr, hg⟩
        exact ⟨y, none, selR_dyn hin (fun d e h => by simp at h) (Nat.zero_le _), rfl, hr, hg⟩
      · match ds, more, hd1, hd2 with
        | [kv, vv], [d, d'], _, _ =>
          have hkv : RT m kv d := e2 0 (by simp) (by simp)
          have hvv : RT m vv d' := e2 1 (by simp) (by simp)
          have hmd : d ∈ (ST.mk 6 (ks.map kyOf) kids [d, d']).more := by simp [ST.more]
          have w1 : WS d ≤ WS (.mk 6 (ks.map kyOf) kids [d, d']) := ws_kid' (.inr (by simp))
          have w2 : WS d' ≤ WS (.mk 6 (ks.map kyOf) kids [d, d']) := ws_kid' (.inr (by simp))
          refine (osel_no1 h0 h1 lk hp hk r e0 so hW hlen hin (hq 0 (by simp)) (hq 1 (by simp)) hkv hvv (hsd.out.2.2 d hmd) (by omega)).mono ?_
          rintro e' w' ⟨y, o, ho, rfl, hr, hg⟩
          refine ⟨y, o, selR_dyn hin (fun x e hx he hin => ?_) ?_, rfl, hr, hg⟩
          · simp at hx he; subst hx he
            rcases ho with rfl | ⟨hb, rfl⟩
            · rfl
            · exact absurd hin (ctB_false hkv.nt (hsd.out.2.2 d hmd) (hna.out.2.2 d hmd) hb)
          · rcases ho with rfl | ⟨_, rfl⟩
            · exact Nat.le_trans (OW_le _) w2
            · exact Nat.zero_le _
  | _ => exact absurd h6 (by simp [ST.kind])
/-- A type of texts or of numbers for a key. -/
theorem sel_base_text {s : ST} {key : ByteArray} (h8 : s.kind ≠ 8) (hn : NT s) (hsd : Sd s) (hna : Na s) (hw : WS s ≤ 1000000) : SelC s (.iface 9 (.string key)) (SelR s (.iface 9 (.string key))) := by
  have hflat : ∀ s : ST, s.kind = 1 ∨ s.kind = 2 ∨ s.kind = 3 ∨ s.kind = 4 → SelC s (.iface 9 (.string key)) (SelR s (.iface 9 (.string key))) := fun s hk => selC_slq fun m v w h hm => (sel_flat h hk).mono fun e w' ⟨y, o, ho, h⟩ => ⟨y, o, by subst ho; exact selR_flat hk, h⟩
  cases hn with
  | null => exact hflat _ (by simp [ST.kind])
  | bool => exact hflat _ (by simp [ST.kind])
  | num => exact hflat _ (by simp [ST.kind])
  | str => exact hflat _ (by simp [ST.kind])
  | arr _ _ _ => exact selC_slq fun m v w h hm => (sel_arrs h rfl).mono fun e w' ⟨y, o, ho, h⟩ => ⟨y, o, by subst ho; exact selR_arrs rfl, h⟩
  | obj _ _ _ _ _ => exact sel_object rfl hsd hna hw
  | @set t ht =>
    have hwt : WS t ≤ WS (.mk 7 [] [t] []) := ws_kid' (.inl (by simp))
    have hp := WS_pos (.mk 7 [] [t] [])
    refine selC_slq fun m v w h hm => (sel_set (tv := .iface 93 (.agg #[])) (ts := .mk 4 [] [] []) h ty_text .str hm (by omega)).mono fun e w' ⟨y, o, ho, h⟩ => ⟨y, o, selR_set rfl ?_, h⟩
    rcases ho with rfl | rfl | rfl
    · exact Nat.zero_le _
    · exact Nat.le_trans (OW_le _) hwt
    · exact Nat.le_trans (OW_le _) (by rw [show WS (.mk 4 [] [] []) = 1 by rw [WS]; simp]; exact hp)
  | any _ => exact absurd rfl h8
theorem sel_base_num {s : ST} {tx : ByteArray} {n : Nat} (ht : tx.data.toList = digs n) (hi : n ≤ 1000000) (h8 : s.kind ≠ 8) (h6 : s.kind ≠ 6) (hn : NT s) (hw : WS s ≤ 1000000) : SelC s (.iface 119 (.string tx)) (SelR s (.iface 119 (.string tx))) := by
  have hflat : ∀ s : ST, s.kind = 1 ∨ s.kind = 2 ∨ s.kind = 3 ∨ s.kind = 4 → SelC s (.iface 119 (.string tx)) (SelR s (.iface 119 (.string tx))) := fun s hk => selC_slq fun m v w h hm => (sel_flat h hk).mono fun e w' ⟨y, o, ho, h⟩ => ⟨y, o, by subst ho; exact selR_flat hk, h⟩
  cases hn with
  | null => exact hflat _ (by simp [ST.kind])
  | bool => exact hflat _ (by simp [ST.kind])
  | num => exact hflat _ (by simp [ST.kind])
  | str => exact hflat _ (by simp [ST.kind])
  | arr _ _ _ => exact selC_slq fun m v w h hm => (sel_arr h ht hi hm).mono fun e w' ⟨y, e1, hr, hg⟩ => ⟨y, _, selR_arrn ht, e1, hr, hg⟩
  | obj _ _ _ _ _ => exact absurd rfl h6
  | @set t ht' =>
    have hwt : WS t ≤ WS (.mk 7 [] [t] []) := ws_kid' (.inl (by simp))
    have hp := WS_pos (.mk 7 [] [t] [])
    refine selC_slq fun m v w h hm => (sel_set (tv := .iface 92 (.agg #[])) (ts := .mk 3 [] [] []) h ty_numb .num hm (by omega)).mono fun e w' ⟨y, o, ho, h⟩ => ⟨y, o, selR_set rfl ?_, h⟩
    rcases ho with rfl | rfl | rfl
    · exact Nat.zero_le _
    · exact Nat.le_trans (OW_le _) hwt
    · exact Nat.le_trans (OW_le _) (by rw [show WS (.mk 3 [] [] []) = 1 by rw [WS]; simp]; exact hp)
  | any _ => exact absurd rfl h8
end Go.Proofs.YtaglgokeejjagaaGreat
/- 'Select' at an any type. -/
namespace Go.Proofs.YtaglgokeejjagaaGreat
set_option linter.unusedVariables false
set_option linter.unusedSimpArgs false
open Go.RowKit Go.Sort

theorem any_zero {m : Mem} {v : Value} {l : List ST} (h : RT m v (.mk 8 [] l [])) : cmpT (.mk 8 [] l []) (.mk 8 [] [] []) = 0 ↔ l = [] := by
  rw [cmpT_zero h.nt (.any (by simp))]
  exact ⟨fun e => by injection e, fun e => by rw [e]⟩
set_option maxHeartbeats 4000000 in
set_option maxRecDepth 100000 in
theorem sel_any0 {m : Mem} {w : World} {x : Value} {a : Option Addr} {c : Nat} (h : RT m (.iface 110 (.slice a 0 c)) (.mk 8 [] [] [])) (hm : MLe m (ucell w)) : Calls Tryz.prog 45 #[.iface 110 (.slice a 0 c), x] w (SlQ m (· = some (.mk 8 [] [] [])) w) := by
  have H1 := Lib.hid (unwrap_any h)
  have H2 := Lib.hid (unwrapR_any h)
  have HM := Lib.hid hm
  have HC := Lib.hid (fun (b : Option Addr) (W : World) (hW : MLe m (ucell W)) => show Calls Tryz.prog 48 #[.iface 110 (.slice a 0 c), .iface 110 (.slice b 0 0)] W (fun e w' => e = .returned (.int .i64 0) ∧ Gr W w') from by
    have := compare_any (.mk 8 [] [] []) (.mk 8 [] [] []) m (.iface 110 (.slice a 0 c)) (.iface 110 (.slice b 0 0)) W h (top_rt _ _) hW
    rw [cmpT_self] at this
    exact this)
  clear h hm
  go_enter Tryz.func45, Tryz.ntmps45
  go_wp2_with (first
    | (go_at_call 67; refine (H1.out _).mono ?_; rintro e w2 ⟨rfl, hww⟩; have hww := hww.symm; subst hww)
    | (go_at_call 66; refine (H2.out _).mono ?_; rintro e w2 ⟨rfl, hww⟩; have hww := hww.symm; subst hww)
    | (go_at_call 71; refine (top_any w).mono ?_; rintro e w3 ⟨b1, rfl, hg⟩; have HG := Lib.hid hg; clear hg)
    | (go_at_call 48; refine (HC.out _ _ (HM.out.trans (mleU HG.out.below))).mono ?_; rintro e w4 ⟨rfl, hg⟩; have HG2 := Lib.hid (HG.out.trans hg); clear hg)
    | (go_at_call 71; refine (top_any w4).mono ?_; rintro e w5 ⟨b2, rfl, hg⟩; have HG3 := Lib.hid (HG2.out.trans hg); clear hg))
  go_ret
  exact ⟨_, some (.mk 8 [] [] []), rfl, rfl, top_rt _ _, HG3.out⟩
set_option maxHeartbeats 4000000 in
set_option maxRecDepth 100000 in
theorem sel_any1 {m : Mem} {w : World} {x : Value} {a : Option Addr} {c : Nat} {l : List ST} {xs : List Value} (h0 : l ≠ []) (lk : lenOk l.length c) (hl : xs.length = l.length) (r : RowX m a xs) (e : ∀ i (h1 : i < xs.length) (h2 : i < l.length), RT m xs[i] l[i]) (hm : MLe m (ucell w)) (hn : SumW l < 100000)
    (IH : ∀ k ∈ l, SelC k x (SelR k x)) : Calls Tryz.prog 45 #[.iface 110 (.slice a l.length c), x] w (fun e w' => ∃ y o, SelR (.mk 8 [] l []) x o ∧ e = .returned y ∧ RO (fr m w.heap.size w' none) y o ∧ Below w.heap.size w w') := by
  have h : RT m (.iface 110 (.slice a l.length c)) (.mk 8 [] l []) := .any lk hl r e
  have H1 := Lib.hid (unwrap_any h)
  have H2 := Lib.hid (unwrapR_any h)
  have HM := Lib.hid hm
  have HLO := Lib.hid (lo_of_mle (hm.trans ucell_le))
  have hz : cmpT (.mk 8 [] l []) (.mk 8 [] [] []) ≠ 0 := fun e => h0 ((any_zero h).1 e)
  have HC := Lib.hid (fun (b : Option Addr) (W : World) (hW : MLe m (ucell W)) => compare_any (.mk 8 [] l []) (.mk 8 [] [] []) m (.iface 110 (.slice a l.length c)) (.iface 110 (.slice b 0 0)) W h (top_rt _ _) hW)
  generalize cmpT (.mk 8 [] l []) (.mk 8 [] [] []) = n at HC hz
  have HC' := Lib.hid (fun (b : Option Addr) (W : World) (hW : MLe m (ucell W)) => show Calls Tryz.prog 48 #[.iface 110 (.slice a l.length c), .iface 110 (.slice b 0 0)] W (fun e w' => e = .returned (.int .i64 n) ∧ Gr W w') from HC.out b W hW)
  have hz' : (n == 0) = false := by simpa using hz
  obtain ⟨b0, off, rfl, z1⟩ := rowX_get r (show 0 < xs.length by rw [hl]; exact List.length_pos_iff.2 h0)
  have HR := Lib.hid (fun j (hj : j < xs.length) => show m ⟨b0, off + j, none⟩ = some xs[j] by obtain ⟨_, _, e, h⟩ := rowX_get r hj; cases e; exact h)
  have HE := Lib.hid e
  have HL := Lib.hid hl
  have HN := Lib.hid hn
  have H0 := Lib.hid h0
  have HI := Lib.hid (fun (k : ST) (hk : k ∈ l) (r : Value) (W : World) (h1 : RT m r k) (h2 : MLe m (ucell W)) => show Calls Tryz.prog 45 #[r, x] W (fun e w' => ∃ y o, SelR k x o ∧ e = .returned y ∧ RO (fr m W.heap.size w' none) y o ∧ Below W.heap.size W w') from IH k hk m r W h1 h2)
  obtain ⟨k1, k2⟩ := lk
  have hlen := Lib.hid (sumW_len l)
  clear z1 h hm r e hl hn h0 IH HC hz
  go_enter Tryz.func45, Tryz.ntmps45
  go_wp2_with (first
    | (go_at_call 67; refine (H1.out _).mono ?_; rintro e w2 ⟨rfl, hww⟩; have hww := hww.symm; subst hww)
    | (go_at_call 66; refine (H2.out _).mono ?_; rintro e w2 ⟨rfl, hww⟩; have hww := hww.symm; subst hww)
    | (go_at_call 71; refine (top_any w).mono ?_; rintro e w3 ⟨b1, rfl, hg⟩; have HG := Lib.hid hg; clear hg)
    | (go_at_call 48; refine (HC'.out _ _ (HM.out.trans (mleU HG.out.below))).mono ?_; rintro e w4 ⟨rfl, hg⟩; have HG2 := Lib.hid (HG.out.trans hg); clear hg))
  go_loopw [16, 88] (fun tp i wr => ∃ (p : Nat) (o : Option ST), p ≤ l.length ∧ i = .int .i64 p ∧ Hid (LpR l p x o ∧ RO (fr m w.heap.size wr none) tp o ∧ Below w.heap.size w wr)) (fun _ i _ => l.length - (intOf i).toNat)
  case atStart => exact ⟨0, none, Nat.zero_le _, rfl, lpR_zero _ _, rfl, HG2.out.below⟩
  case round =>
    obtain ⟨p, o, hp, rfl, hI⟩ := hrel
    by_cases hlt : p < l.length
    · have hxr := HE.out p (by have := HL.out; omega) hlt
      have hmw := HM.out.trans (mleU hI.out.2.2)
      have c0 := ucell_le _ _ (hmw _ _ (HR.out p (by have := HL.out; omega)))
      obtain ⟨T, u, hs⟩ := hxr.shape'
      rw [hs] at hxr c0
      have HXR := Lib.hid hxr
      have HMW := Lib.hid hmw
      clear hxr hs hmw
      go_wp2_with (first
        | (go_at_call 45; refine (HI.out _ (List.getElem_mem hlt) _ _ HXR.out HMW.out).mono ?_; rintro e w5 ⟨y, o', ho', rfl, hr, hb⟩; have HS := Lib.hid ho'; have HB := Lib.hid (bl_trans hI.out.2.2 hb); have HY := Lib.hid (hr.mono (fr_lower (w' := w5) HLO.out hI.out.2.2.size (fun k _ _ => rfl))); have HTP := Lib.hid (hI.out.2.1.mono (fr_bl hb)); clear ho' hr hb)
        | (go_at_call 72; refine (or_any HY.out HTP.out (fr_leU (HM.out.trans (mleU HB.out))) (by have h1 := HS.out.2; have h2 := hI.out.1.2; have h3 := sumW_take hlt; have h4 := sumW_drop l (p + 1); have h5 := HN.out; omega)).mono ?_; rintro e w6 ⟨y2, o2, ho, rfl, hr, hb⟩; have HO := Lib.hid ho; have HR2 := Lib.hid (hr.mono (fr_trans HLO.out HB.out.size hb)); have HB2 := Lib.hid (bl_trans HB.out hb); clear ho hr hb))
      go_roundw
      case rel => exact ⟨p + 1, o2, by omega, by go_num, lpR_step hlt hI.out.1 HS.out HO.out, HR2.out, HB2.out⟩
      case measure => simp [intOf]; omega
    · obtain rfl : p = l.length := by omega
      go_wp2
      go_ret
      exact ⟨_, o, lpR_end H0.out hI.out.1, rfl, hI.out.2.1, hI.out.2.2⟩
theorem sel_anyC {x : Value} {l : List ST} (hn : SumW l < 100000) (IH : ∀ k ∈ l, SelC k x (SelR k x)) : SelC (.mk 8 [] l []) x (SelR (.mk 8 [] l []) x) := by
  intro m r w h hm
  by_cases h0 : l = []
  · subst h0
    cases h with
    | @any c a xs _ lk hl r e =>
      refine (sel_any0 (.any (kids := []) lk hl r e) hm).mono ?_
      rintro e w' ⟨y, o, rfl, rfl, hr, hg⟩
      exact ⟨y, _, selR_top, rfl, hr.mono (fr_old (lo_of_mle (hm.trans ucell_le))), hg.below⟩
  · cases h with
    | @any c a xs _ lk hl r e => exact sel_any1 h0 lk hl r e hm hn IH
theorem sel_text {s : ST} {key : ByteArray} (hn : NT s) (hsd : Sd s) (hna : Na s) (hw : WS s ≤ 50000) : SelC s (.iface 9 (.string key)) (SelR s (.iface 9 (.string key))) := by
  by_cases h8 : s.kind = 8
  · cases hn with
    | @any l hk =>
      refine sel_anyC (by have := OW_le (.mk 8 [] l []); rw [ow_8] at this; omega) fun k hkl => ?_
      exact sel_base_text (hna.out.1 rfl k hkl) (hk k hkl) (hsd.out.2.1 k hkl) (hna.out.2.1 k hkl) (by have := ws_kid' (kd := 8) (ks := []) (more := []) (.inl hkl); omega)
    | _ => exact absurd h8 (by simp [ST.kind])
  · exact sel_base_text h8 hn hsd hna (by omega)
theorem sel_numb {s : ST} {tx : ByteArray} {n : Nat} (ht : tx.data.toList = digs n) (hi : n ≤ 1000000) (hn : NT s) (hna : Na s) (h6 : s.kind ≠ 6) (hmx : s.kind = 8 → ∀ k ∈ s.kids, k.kind ≠ 6) (hw : WS s ≤ 50000) : SelC s (.iface 119 (.string tx)) (SelR s (.iface 119 (.string tx))) := by
  by_cases h8 : s.kind = 8
  · cases hn with
    | @any l hk =>
      refine sel_anyC (by have := OW_le (.mk 8 [] l []); rw [ow_8] at this; omega) fun k hkl => ?_
      exact sel_base_num ht hi (hna.out.1 rfl k hkl) (hmx rfl k hkl) (hk k hkl) (by have := ws_kid' (kd := 8) (ks := []) (more := []) (.inl hkl); omega)
    | _ => exact absurd h8 (by simp [ST.kind])
  · exact sel_base_num ht hi h8 h6 hn (by omega)
end Go.Proofs.YtaglgokeejjagaaGreat
