/- 'properties': the properties of an object against those of a type. -/
import Derived.Test.YtaglgokeejjagaaGreatOwn
import Derived.Test.YtaglgokeejjagaaGreatPureIn
import Derived.Test.YtaglgokeejjagaaGreatStat
import Derived.Test.YtaglgokeejjagaaGreatItems
import Derived.BigQuiet
namespace Go.Proofs.YtaglgokeejjagaaGreat
set_option linter.unusedVariables false
set_option linter.unusedSimpArgs false
open Go.RowKit Go.Sort

def PropAt (t : ST) (v : Vl) (i : Nat) : Prop := ∀ (h : i < v.keys.length), (∀ j, stat t.keys v.keys[i] = some j → ∀ (hj : j < t.kids.length) (h2 : i < v.kids.length), InP t.kids[j] v.kids[i]) ∧
  (stat t.keys v.keys[i] = none → 2 ≤ t.more.length ∧ (∀ d, t.more[0]? = some d → InP d (.mk 4 v.keys[i] [] [])) ∧ (∀ d, t.more[1]? = some d → ∀ (h2 : i < v.kids.length), InP d v.kids[i]))
theorem props_of {t : ST} {v : Vl} (h : hits t.keys v.keys = t.keys.length) (h2 : ∀ i, i < v.keys.length → PropAt t v i) : PropsP t v :=
  ⟨h, fun i hi j hs hj h3 => (h2 i hi hi).1 j hs hj h3, fun i hi hs => (h2 i hi hi).2 hs⟩
theorem props_at {t : ST} {v : Vl} (h : PropsP t v) (i : Nat) : PropAt t v i := fun hi => ⟨fun j hs hj h3 => h.2.1 i hi j hs hj h3, fun hs => h.2.2 i hi hs⟩
theorem hits_some {ks : List Ky} {names : List ByteArray} {k : Nat} (h : k < names.length) {j : Nat} (hs : stat ks names[k] = some j) : hits ks (names.take (k + 1)) = hits ks (names.take k) + 1 := by
  unfold hits
  rw [List.take_succ_eq_append_getElem h, List.countP_append, List.countP_singleton, hs]; rfl
theorem hits_none {ks : List Ky} {names : List ByteArray} {k : Nat} (h : k < names.length) (hs : stat ks names[k] = none) : hits ks (names.take (k + 1)) = hits ks (names.take k) := by
  unfold hits
  rw [List.take_succ_eq_append_getElem h, List.countP_append, List.countP_singleton, hs]; rfl
theorem mv_key (m : Mem) (k : ByteArray) : MV m (vlCells 4 k none 0 0 none 0 0) (.mk 4 k [] []) :=
  MV.close (ks := []) (kids := []) ⟨Nat.le_refl _, by decide⟩ ⟨Nat.le_refl _, by decide⟩ (fun h => absurd h (Nat.lt_irrefl _)) ⟨fun _ => [], fun h => absurd h (Nat.lt_irrefl _), fun i h => absurd h (Nat.not_lt_zero _)⟩

set_option maxHeartbeats 6000000 in
set_option maxRecDepth 100000 in
theorem props_any {t : ST} {v : Vl} (IH : Hid (∀ d, SizeOf.sizeOf d < SizeOf.sizeOf t → InOk d)) {m : Mem} {kv : Int} {tx : ByteArray} {akv : Option Addr} {nkv ckv : Nat} {a1v : Option Addr} {n1v c1v : Nat} {kd : Int} {ak : Option Addr} {nk ck : Nat} {a1 : Option Addr} {n1 c1 : Nat} {a2 : Option Addr} {n2 c2 : Nat} {w : World}
    (hwt : Wt t) (hwv : Wv v) (hv : MV m (vlCells kv tx akv nkv ckv a1v n1v c1v) v) (ht : MST m (stCells kd ak nk ck a1 n1 c1 a2 n2 c2) t) (hm : MLe m w.cell?) :
    Calls Tryz.prog 41 #[.agg #[.int .i64 kv, .string tx, .slice akv nkv ckv, .slice a1v n1v c1v], .agg #[.int .i64 kd, .slice ak nk ck, .slice a1 n1 c1, .slice a2 n2 c2]] w (ItC (PropsP t v) w) := by
  obtain ⟨rfl, rfl, rfl, rfl, ⟨lv1, lv2⟩, ⟨lv3, lv4⟩, rkv, r1v⟩ := hv.open
  have HT0 := Lib.hid ht
  obtain ⟨rfl, rfl, rfl, rfl, ⟨lk1, lk2⟩, ⟨l11, l12⟩, ⟨l21, l22⟩, rk, r1, r2⟩ := ht.open
  have HKV := Lib.hid rkv
  have H1V := Lib.hid r1v
  have H2 := Lib.hid r2
  have HM := Lib.hid hm
  have HT := Lib.hid hwt.out
  have HV := Lib.hid hwv.out
  clear rkv r1v rk r1 r2 hv ht hm hwt hwv
  go_enter Tryz.func41, Tryz.ntmps41
  go_wp2
  go_loopw [5, 13] (fun fd i wr => ∃ k c : Nat, k ≤ v.keys.length ∧ c ≤ k ∧ fd = .int .i64 c ∧ i = .int .i64 k ∧ Hid (
    wr.heap[w.heap.size]? = some (.cells #[.int .i64 v.kind, .string v.text, .slice akv v.keys.length ckv, .slice a1v v.kids.length c1v] 36 (0, 0)) ∧
    wr.heap[w.heap.size + 1]? = some (.cells #[.int .i64 t.kind, .slice ak t.keys.length ck, .slice a1 t.kids.length c1, .slice a2 t.more.length c2] 42 (0, 0)) ∧ Gr w wr ∧
    c = hits t.keys (v.keys.take k) ∧ (∀ i, i < k → PropAt t v i))) (fun _ i _ => v.keys.length - (intOf i).toNat)
  case atStart => exact ⟨0, 0, Nat.zero_le _, Nat.zero_le _, rfl, rfl, al_old (al_new rfl), al_new (by simp), ((Gr.refl _).alloc _).alloc _, by simp [hits], fun j h => absurd h (Nat.not_lt_zero _)⟩
  case round =>
    obtain ⟨k, c, hkn, hck, rfl, rfl, hI⟩ := hrel
    have hX := hI.out.1
    have hY := hI.out.2.1
    have HGR := Lib.hid hI.out.2.2.1
    have hsz : w.heap.size + 1 < wr.heap.size := lt_blk hY
    obtain ⟨x0, x1, x2, x3⟩ := cells4 hX
    obtain ⟨y0, y1, y2, y3⟩ := cells4 hY
    by_cases hlt : k < v.keys.length
    · have hm1 := HM.out.trans hI.out.2.2.1.mle
      have HM1 := Lib.hid hm1
      obtain ⟨bs, offs, rfl, s0⟩ := HKV.out.at hlt
      replace s0 := hm1 _ _ s0
      have hl3 : k < v.kids.length := Nat.lt_of_lt_of_le hlt HV.out.1
      obtain ⟨b, off, kd', tx', ak', nk, ck', a1', n1, c1', rfl, e0, e1, e2, e3, hkv⟩ := H1V.out.at hl3
      have HK1 := Lib.hid hkv
      have HVk := Lib.hid (HV.out.2 _ (List.getElem_mem hl3))
      have HE := Lib.hid (And.intro e0 (And.intro e1 (And.intro e2 e3)))
      have HX := Lib.hid hX
      have HY := Lib.hid hY
      have hmix : Tryz.prog.follows .mixedOrders = true := by kernel_rfl
      clear hkv e0 e1 e2 e3 hm1 hX hY
      cases hst : stat t.keys v.keys[k] with
      | some j =>
        have hst' := stat_lt hst
        have hjk : j < t.kids.length := Nat.lt_of_lt_of_le hst' HT.out.2.1
        have HST := Lib.hid hst
        clear hst hst'
        go_wp2_with (go_at_call 50; refine (static_some HT0.out (HM1.out.trans (Gr.refl _).mle) HST.out hjk).mono ?_; rintro e w2 ⟨kd2, ak2, nk2, ck2, a12, n12, c12, a22, n22, c22, rfl, hmst, g2⟩)
        have HKT := Lib.hid hmst
        clear hmst
        have hc := al_new (w := w2) (o := .cells #[.int .i64 kd2, .slice ak2 nk2 ck2, .slice a12 n12 c12, .slice a22 n22 c22] 42) rfl
        have hX1 := al_old (o := .cells #[.int .i64 kd2, .slice ak2 nk2 ck2, .slice a12 n12 c12, .slice a22 n22 c22] 42) (((g2.block (lt_blk HX.out)).trans HX.out))
        have hY1 := al_old (o := .cells #[.int .i64 kd2, .slice ak2 nk2 ck2, .slice a12 n12 c12, .slice a22 n22 c22] 42) (((g2.block (lt_blk HY.out)).trans HY.out))
        have hM2 := mle_alloc (HM1.out.trans g2.mle) (.cells #[.int .i64 kd2, .slice ak2 nk2 ck2, .slice a12 n12 c12, .slice a22 n22 c22] 42)
        have hG2 := (HGR.out.trans g2).alloc (.cells #[.int .i64 kd2, .slice ak2 nk2 ck2, .slice a12 n12 c12, .slice a22 n22 c22] 42)
        generalize (w2.alloc (.cells #[.int .i64 kd2, .slice ak2 nk2 ck2, .slice a12 n12 c12, .slice a22 n22 c22] 42)) = W at hc hX1 hY1 hM2 hG2 ⊢
        have HMW := Lib.hid hM2
        have HGW := Lib.hid hG2
        have HXW := Lib.hid hX1
        have HYW := Lib.hid hY1
        clear hM2 hG2 x0 x1 x2 x3 y0 y1 y2 y3 s0
        have HTk := Lib.hid (HT.out.2.2.1 _ (List.getElem_mem hjk))
        have HIN := Lib.hid (IH.out t.kids[j] (ST.lt_kid' (List.getElem_mem hjk)))
        have d0 := fun n os => (gr_grow W n os).cell (cell_blk hc 0 rfl)
        have d1 := fun n os => (gr_grow W n os).cell (cell_blk hc 1 rfl)
        have d2 := fun n os => (gr_grow W n os).cell (cell_blk hc 2 rfl)
        have d3 := fun n os => (gr_grow W n os).cell (cell_blk hc 3 rfl)
        have x3 := fun n os => (gr_grow W n os).cell (cell_blk hX1 3 rfl)
        have e0 := fun n os => (gr_grow W n os).cell (HMW.out _ _ HE.out.1)
        have e1 := fun n os => (gr_grow W n os).cell (HMW.out _ _ HE.out.2.1)
        have e2 := fun n os => (gr_grow W n os).cell (HMW.out _ _ HE.out.2.2.1)
        have e3 := fun n os => (gr_grow W n os).cell (HMW.out _ _ HE.out.2.2.2)
        have HG9 := Lib.hid g2
        clear hc hX1 hY1 g2
        by_cases hpk : InP t.kids[j] v.kids[k]
        · have hp := inT_true hpk
          have HCALL := Lib.hid (fun (W' : World) (h' : MLe m W'.cell?) => show Calls Tryz.prog 15 #[.agg #[.int .i64 kd', .string tx', .slice ak' nk ck', .slice a1' n1 c1'], .agg #[.int .i64 kd2, .slice ak2 nk2 ck2, .slice a12 n12 c12, .slice a22 n22 c22]] W' (fun e w' => e = .returned (.bool true) ∧ Gr W' w') from by have h9 := HIN.out _ m _ _ _ _ _ _ _ _ _ _ _ _ _ _ _ _ _ _ W' HTk.out HVk.out HK1.out HKT.out h'; unfold InC at h9; rw [hp] at h9; exact h9)
          clear hp
          refine wp_region_quiet_grown hmix (by kernel_rfl) ?_
          repeat (go_big_quiet_step ((go_at_call 15; with_reducible exact quiet_gr (v := .bool true) (HCALL.out _ (HMW.out.trans (gr_grow _ _ _).mle)))))
          refine wpQuiet_nil ?_
          intro _ hw'
          obtain ⟨⟨nq, osq⟩, hw''⟩ := hw'
          subst hw''
          clear d0 d1 d2 d3 x3 e0 e1 e2 e3
          go_wp2
          go_roundw
          case rel =>
            refine ⟨k + 1, c + 1, by omega, by omega, by go_num, by go_num, bl_heap (gr_grow _ _ _).below HXW.out, bl_heap (gr_grow _ _ _).below HYW.out, HGW.out.trans (gr_grow _ _ _), ?_, ?_⟩
            · rw [hits_some hlt HST.out, hI.out.2.2.2.1]
            · intro i hik
              by_cases e : i = k
              · subst e
                exact fun h => ⟨fun j' hs' hj' h2' => by have e := hs'.symm.trans HST.out; cases e; exact hpk, fun hs' => by have e := hs'.symm.trans HST.out; cases e⟩
              · exact hI.out.2.2.2.2 i (by omega)
          case measure => simp [intOf]; omega

        · have hp := inT_false hpk
          have HCALL := Lib.hid (fun (W' : World) (h' : MLe m W'.cell?) => show Calls Tryz.prog 15 #[.agg #[.int .i64 kd', .string tx', .slice ak' nk ck', .slice a1' n1 c1'], .agg #[.int .i64 kd2, .slice ak2 nk2 ck2, .slice a12 n12 c12, .slice a22 n22 c22]] W' (fun e w' => e = .returned (.bool false) ∧ Gr W' w') from by have h9 := HIN.out _ m _ _ _ _ _ _ _ _ _ _ _ _ _ _ _ _ _ _ W' HTk.out HVk.out HK1.out HKT.out h'; unfold InC at h9; rw [hp] at h9; exact h9)
          clear hp
          refine wp_region_quiet_grown hmix (by kernel_rfl) ?_
          repeat (go_big_quiet_step ((go_at_call 15; with_reducible exact quiet_gr (v := .bool false) (HCALL.out _ (HMW.out.trans (gr_grow _ _ _).mle)))))
          refine wpQuiet_nil ?_
          intro _ hw'
          obtain ⟨⟨nq, osq⟩, hw''⟩ := hw'
          subst hw''
          clear d0 d1 d2 d3 x3 e0 e1 e2 e3
          go_wp2
          have hG3 := HGW.out.trans (gr_grow W nq osq)
          generalize (grow (W.drewN nq) osq) = W2 at hG3 ⊢
          refine wp_region_quiet_grown hmix (by kernel_rfl) ?_
          repeat (go_big_quiet_step ((skip)))
          refine wpQuiet_nil ?_
          intro _ hw'
          obtain ⟨⟨nq, osq⟩, hw''⟩ := hw'
          subst hw''
          clear hmix
          go_wp2
          go_ret
          exact ItC.no (fun h => hpk ((props_at h k hlt).1 _ HST.out hjk hl3)) (hG3.trans (gr_grow _ _ _))

      | none =>
        have HST := Lib.hid hst
        clear hst
        go_wp2_with (go_at_call 50; refine (static_none HT0.out (HM1.out.trans (Gr.refl _).mle) HST.out).mono ?_; rintro e w2 ⟨rfl, g2⟩)
        have hc := al_new (w := w2) (o := .cells #[.int .i64 0, .slice none 0 0, .slice none 0 0, .slice none 0 0] 42) rfl
        have hX1 := al_old (o := .cells #[.int .i64 0, .slice none 0 0, .slice none 0 0, .slice none 0 0] 42) (((g2.block (lt_blk HX.out)).trans HX.out))
        have hY1 := al_old (o := .cells #[.int .i64 0, .slice none 0 0, .slice none 0 0, .slice none 0 0] 42) (((g2.block (lt_blk HY.out)).trans HY.out))
        have hM2 := mle_alloc (HM1.out.trans g2.mle) (.cells #[.int .i64 0, .slice none 0 0, .slice none 0 0, .slice none 0 0] 42)
        have hG2 := (HGR.out.trans g2).alloc (.cells #[.int .i64 0, .slice none 0 0, .slice none 0 0, .slice none 0 0] 42)
        generalize (w2.alloc (.cells #[.int .i64 0, .slice none 0 0, .slice none 0 0, .slice none 0 0] 42)) = W at hc hX1 hY1 hM2 hG2 ⊢
        have HMW := Lib.hid hM2
        have HGW := Lib.hid hG2
        have HXW := Lib.hid hX1
        have HYW := Lib.hid hY1
        clear hM2 hG2 x0 x1 x2 x3 y0 y1 y2 y3 s0
        have HG9 := Lib.hid g2
        clear hc hX1 hY1 g2
        refine wp_region_quiet_grown hmix (by kernel_rfl) ?_
        repeat (go_big_quiet_step ((skip)))
        refine wpQuiet_nil ?_
        intro _ hw'
        obtain ⟨⟨nq, osq⟩, hw''⟩ := hw'
        subst hw''
        clear HG9
        go_wp2
        have hG3 := HGW.out.trans (gr_grow W nq osq)
        have hM3 := HMW.out.trans (gr_grow W nq osq).mle
        have hX3 := bl_heap (gr_grow W nq osq).below HXW.out
        have hY3 := bl_heap (gr_grow W nq osq).below HYW.out
        generalize (grow (W.drewN nq) osq) = W2 at hG3 hM3 hX3 hY3 ⊢
        have HG3 := Lib.hid hG3
        have HM3 := Lib.hid hM3
        have HX3 := Lib.hid hX3
        have HY3 := Lib.hid hY3
        have x3 := fun n os => (gr_grow W2 n os).cell (cell_blk hX3 3 rfl)
        have y3 := fun n os => (gr_grow W2 n os).cell (cell_blk hY3 3 rfl)
        clear hG3 hM3 hX3 hY3
        by_cases h2m : t.more.length < 2
        · have f1 : decide ((t.more.length : Int) < 2) = true := by simp; omega
          refine wp_region_quiet_grown hmix (by kernel_rfl) ?_
          repeat (go_big_quiet_step ((skip)))
          refine wpQuiet_nil ?_
          intro _ hw'
          obtain ⟨⟨nq, osq⟩, hw''⟩ := hw'
          subst hw''
          clear x3 y3
          go_wp2
          go_ret
          exact ItC.no (fun h => by have := ((props_at h k hlt).2 HST.out).1; omega) (HG3.out.trans (gr_grow _ _ _))

        · have f1 : decide ((t.more.length : Int) < 2) = false := by simp; omega
          have f2 : decide (t.more.length < 2) = false := by simp; omega
          have hm0 : 0 < t.more.length := by omega
          have hm1 : 1 < t.more.length := by omega
          clear h2m
          obtain ⟨b2, off2, kdp, akp, nkp, ckp, a1p, n1p, c1p, a2p, n2p, c2p, rfl, z0, z1, z2, z3, hzt⟩ := H2.out.at hm0
          obtain ⟨b2', off2', kdq, akq, nkq, ckq, a1q, n1q, c1q, a2q, n2q, c2q, eb, q0, q1, q2, q3, hqt⟩ := H2.out.at hm1
          simp only [Option.some.injEq, Addr.mk.injEq, and_true] at eb
          obtain ⟨rfl, rfl⟩ := eb
          simp only [Nat.zero_mul, Nat.add_zero] at z0 z1 z2 z3
          simp only [Nat.one_mul] at q0 q1 q2 q3
          have HZT := Lib.hid hzt
          have HQT := Lib.hid hqt
          have HTp := Lib.hid (HT.out.2.2.2 _ (List.getElem_mem hm0))
          have HTq := Lib.hid (HT.out.2.2.2 _ (List.getElem_mem hm1))
          have HINp := Lib.hid (IH.out t.more[0] (ST.lt_more' (List.getElem_mem hm0)))
          have HINq := Lib.hid (IH.out t.more[1] (ST.lt_more' (List.getElem_mem hm1)))
          replace z0 := fun n os => (gr_grow W2 n os).cell (HM3.out _ _ z0)
          replace z1 := fun n os => (gr_grow W2 n os).cell (HM3.out _ _ z1)
          replace z2 := fun n os => (gr_grow W2 n os).cell (HM3.out _ _ z2)
          replace z3 := fun n os => (gr_grow W2 n os).cell (HM3.out _ _ z3)
          replace q0 := fun n os => (gr_grow W2 n os).cell (HM3.out _ _ q0)
          replace q1 := fun n os => (gr_grow W2 n os).cell (HM3.out _ _ q1)
          replace q2 := fun n os => (gr_grow W2 n os).cell (HM3.out _ _ q2)
          replace q3 := fun n os => (gr_grow W2 n os).cell (HM3.out _ _ q3)
          have e0 := fun n os => (gr_grow W2 n os).cell (HM3.out _ _ HE.out.1)
          have e1 := fun n os => (gr_grow W2 n os).cell (HM3.out _ _ HE.out.2.1)
          have e2 := fun n os => (gr_grow W2 n os).cell (HM3.out _ _ HE.out.2.2.1)
          have e3 := fun n os => (gr_grow W2 n os).cell (HM3.out _ _ HE.out.2.2.2)
          clear hzt hqt
          have HWK := Lib.hid (Wv.mk (kd := 4) (tx := v.keys[k]) (ks := []) (kids := []) (Nat.le_refl _) (by simp))
          by_cases hpk : InP t.more[0] (.mk 4 v.keys[k] [] [])
          · have hp := inT_true hpk
            have HC1 := Lib.hid (fun (W' : World) (h' : MLe m W'.cell?) => show Calls Tryz.prog 15 #[.agg #[.int .i64 4, .string v.keys[k], .slice none 0 0, .slice none 0 0], .agg #[.int .i64 kdp, .slice akp nkp ckp, .slice a1p n1p c1p, .slice a2p n2p c2p]] W' (fun e w' => e = .returned (.bool true) ∧ Gr W' w') from by have h9 := HINp.out _ m _ _ _ _ _ _ _ _ _ _ _ _ _ _ _ _ _ _ W' HTp.out HWK.out (mv_key m _) HZT.out h'; unfold InC at h9; rw [hp] at h9; exact h9)
            clear hp
            by_cases hpq : InP t.more[1] v.kids[k]
            · have hp := inT_true hpq
              have HC2 := Lib.hid (fun (W' : World) (h' : MLe m W'.cell?) => show Calls Tryz.prog 15 #[.agg #[.int .i64 kd', .string tx', .slice ak' nk ck', .slice a1' n1 c1'], .agg #[.int .i64 kdq, .slice akq nkq ckq, .slice a1q n1q c1q, .slice a2q n2q c2q]] W' (fun e w' => e = .returned (.bool true) ∧ Gr W' w') from by have h9 := HINq.out _ m _ _ _ _ _ _ _ _ _ _ _ _ _ _ _ _ _ _ W' HTq.out HVk.out HK1.out HQT.out h'; unfold InC at h9; rw [hp] at h9; exact h9)
              clear hp
              refine wp_region_quiet_grown hmix (by kernel_rfl) ?_
              repeat (go_big_quiet_step ((go_at_call 15; first | with_reducible exact quiet_gr (v := .bool true) (HC1.out _ (HM3.out.trans (gr_grow _ _ _).mle)) | with_reducible exact quiet_gr (v := .bool true) (HC2.out _ (HM3.out.trans (gr_grow _ _ _).mle)))))
              refine wpQuiet_nil ?_
              intro _ hw'
              obtain ⟨⟨nq, osq⟩, hw''⟩ := hw'
              subst hw''
              clear x3 y3 z0 z1 z2 z3 q0 q1 q2 q3 e0 e1 e2 e3
              go_wp2
              go_roundw
              case rel =>
                refine ⟨k + 1, c, by omega, by omega, by go_num, by go_num, bl_heap (gr_grow _ _ _).below HX3.out, bl_heap (gr_grow _ _ _).below HY3.out, HG3.out.trans (gr_grow _ _ _), ?_, ?_⟩
                · rw [hits_none hlt HST.out, hI.out.2.2.2.1]
                · intro i hik
                  by_cases e : i = k
                  · subst e
                    exact fun h => ⟨fun j' hs' hj' h2' => (by have e := hs'.symm.trans HST.out; cases e), fun hs' => ⟨by omega, fun d hd => by rw [List.getElem?_eq_getElem hm0] at hd; cases hd; exact hpk, fun d hd h2 => by rw [List.getElem?_eq_getElem hm1] at hd; cases hd; exact hpq⟩⟩
                  · exact hI.out.2.2.2.2 i (by omega)
              case measure => simp [intOf]; omega

            · have hp := inT_false hpq
              have HC2 := Lib.hid (fun (W' : World) (h' : MLe m W'.cell?) => show Calls Tryz.prog 15 #[.agg #[.int .i64 kd', .string tx', .slice ak' nk ck', .slice a1' n1 c1'], .agg #[.int .i64 kdq, .slice akq nkq ckq, .slice a1q n1q c1q, .slice a2q n2q c2q]] W' (fun e w' => e = .returned (.bool false) ∧ Gr W' w') from by have h9 := HINq.out _ m _ _ _ _ _ _ _ _ _ _ _ _ _ _ _ _ _ _ W' HTq.out HVk.out HK1.out HQT.out h'; unfold InC at h9; rw [hp] at h9; exact h9)
              clear hp
              refine wp_region_quiet_grown hmix (by kernel_rfl) ?_
              repeat (go_big_quiet_step ((go_at_call 15; first | with_reducible exact quiet_gr (v := .bool true) (HC1.out _ (HM3.out.trans (gr_grow _ _ _).mle)) | with_reducible exact quiet_gr (v := .bool false) (HC2.out _ (HM3.out.trans (gr_grow _ _ _).mle)))))
              refine wpQuiet_nil ?_
              intro _ hw'
              obtain ⟨⟨nq, osq⟩, hw''⟩ := hw'
              subst hw''
              clear x3 y3 z0 z1 z2 z3 q0 q1 q2 q3 e0 e1 e2 e3
              go_wp2
              go_ret
              exact ItC.no (fun h => hpq (((props_at h k hlt).2 HST.out).2.2 _ (List.getElem?_eq_getElem hm1) hl3)) (HG3.out.trans (gr_grow _ _ _))

          · have hp := inT_false hpk
            have HC1 := Lib.hid (fun (W' : World) (h' : MLe m W'.cell?) => show Calls Tryz.prog 15 #[.agg #[.int .i64 4, .string v.keys[k], .slice none 0 0, .slice none 0 0], .agg #[.int .i64 kdp, .slice akp nkp ckp, .slice a1p n1p c1p, .slice a2p n2p c2p]] W' (fun e w' => e = .returned (.bool false) ∧ Gr W' w') from by have h9 := HINp.out _ m _ _ _ _ _ _ _ _ _ _ _ _ _ _ _ _ _ _ W' HTp.out HWK.out (mv_key m _) HZT.out h'; unfold InC at h9; rw [hp] at h9; exact h9)
            clear hp
            refine wp_region_quiet_grown hmix (by kernel_rfl) ?_
            repeat (go_big_quiet_step ((go_at_call 15; with_reducible exact quiet_gr (v := .bool false) (HC1.out _ (HM3.out.trans (gr_grow _ _ _).mle)))))
            refine wpQuiet_nil ?_
            intro _ hw'
            obtain ⟨⟨nq, osq⟩, hw''⟩ := hw'
            subst hw''
            clear x3 y3 z0 z1 z2 z3 q0 q1 q2 q3 e0 e1 e2 e3
            go_wp2
            go_ret
            exact ItC.no (fun h => hpk (((props_at h k hlt).2 HST.out).2.1 _ (List.getElem?_eq_getElem hm0))) (HG3.out.trans (gr_grow _ _ _))

    · have ek : k = v.keys.length := by omega
      have hcc : c = hits t.keys v.keys := by have h := hI.out.2.2.2.1; rw [ek, List.take_length] at h; exact h
      have HC := Lib.hid hcc
      have HEK := Lib.hid ek
      clear hcc ek
      by_cases hq : c = t.keys.length
      · have f1 : ((c : Int) == (t.keys.length : Int)) = true := by rw [beq_iff_eq]; omega
        have HQ := Lib.hid hq
        clear hq
        go_wp2
        go_ret
        exact ItC.yes (props_of (by rw [← HC.out]; exact HQ.out) (fun i hi => hI.out.2.2.2.2 i (by have := HEK.out; omega))) HGR.out
      · have f1 : ((c : Int) == (t.keys.length : Int)) = false := by rw [beq_eq_false_iff_ne]; omega
        have HQ := Lib.hid hq
        clear hq
        go_wp2
        go_ret
        exact ItC.no (fun h => HQ.out (by rw [HC.out]; exact h.1)) HGR.out
end Go.Proofs.YtaglgokeejjagaaGreat
