/- Proved: 'copied' lays a copy of a type. Conditions: the type lies in memory as MIT says, within its weight's bound. -/
import Derived.Test.YtaglgokeejjagaaGreatOwn
import Derived.Test.YtaglgokeejjagaaGreatPure1
import Derived.Test.YtaglgokeejjagaaGreatWLast
namespace Go.Proofs.YtaglgokeejjagaaGreat
set_option linter.unusedVariables false
set_option linter.unusedSimpArgs false
open Go.RowKit Go.Sort Go.Proofs.YtaglgokeejjagaaGreatW.PrintLast

def CpT (t : ST) (m : Mem) (w : World) (e : Ending) (w' : World) : Prop :=
  ∃ kd ak nk ck a1 n1 c1 a2 n2 c2, e = .returned (.agg #[.int .i64 kd, .slice ak nk ck, .slice a1 n1 c1, .slice a2 n2 c2]) ∧ MST (fr m w.heap.size w' none) (stCells kd ak nk ck a1 n1 c1 a2 n2 c2) t ∧ Below w.heap.size w w'

theorem toS_kind (t : IT) : (toS t).kind = t.kind := by cases t; rw [toS]; rfl
theorem toS_keys (t : IT) : (toS t).keys = t.keys := by cases t; rw [toS]; rfl
theorem toS_kids (t : IT) : (toS t).kids = t.kids.map toS := by cases t; rw [toS]; rfl
theorem toS_more (t : IT) : (toS t).more = t.more.map toS := by cases t; rw [toS]; rfl

set_option maxHeartbeats 4000000 in
set_option maxRecDepth 100000 in
theorem copied_any (n : Nat) : ∀ (t : IT) (m : Mem) (kd : Int) (nm tx : ByteArray) (ak : Option Addr) (nk ck : Nat) (a1 : Option Addr) (n1 c1 : Nat) (a2 : Option Addr) (n2 c2 : Nat) (w : World), SizeOf.sizeOf t < n → WI t ≤ 1000000 → MIT m (itCells kd nm tx ak nk ck a1 n1 c1 a2 n2 c2) t → MLe m w.cell? →
    Calls Tryz.prog 43 #[.agg #[.int .i64 kd, .string nm, .string tx, .slice ak nk ck, .slice a1 n1 c1, .slice a2 n2 c2]] w (CpT (toS t) m w) := by
  induction n with
  | zero => intro t m kd nm tx ak nk ck a1 n1 c1 a2 n2 c2 w h; exact absurd h (Nat.not_lt_zero _)
  | succ n ih =>
    intro t m kd nm tx ak nk ck a1 n1 c1 a2 n2 c2 w hn hw hv hm
    have IH := Lib.hid ih
    clear ih
    obtain ⟨rfl, rfl, rfl, rfl, rfl, rfl, ⟨lk1, lk2⟩, ⟨l11, l12⟩, ⟨l21, l22⟩, rk, r1, r2⟩ := hv.open
    have HK := Lib.hid rk
    have H1 := Lib.hid r1
    have H2 := Lib.hid r2
    have HM := Lib.hid hm
    have HW := Lib.hid hw
    have HN := Lib.hid hn
    have HLN := Lib.hid (show t.keys.length ≤ 1000000 ∧ t.kids.length ≤ 1000000 ∧ t.more.length ≤ 1000000 from ⟨Nat.le_trans (WI_lens t).1 hw, Nat.le_trans (WI_lens t).2.1 hw, Nat.le_trans (WI_lens t).2.2 hw⟩)
    have HLO := Lib.hid (lo_of_mle hm)
    clear rk r1 r2 hm hn hv hw
    go_enter Tryz.func43, Tryz.ntmps43
    go_wp2
    go_loopw [5, 16] (fun _ i wr => ∃ (k : Nat) (v : Value), k ≤ t.keys.length ∧ i = .int .i64 k ∧ Hid (
        wr.heap[w.heap.size]? = some (.cells #[.int .i64 t.kind, .string t.name, .string t.text, .slice ak t.keys.length ck, .slice a1 t.kids.length c1, .slice a2 t.more.length c2] 25 (0, 0)) ∧ wr.heap[w.heap.size + 1]? = some (.cells #[.int .i64 0, .slice none 0 0, .slice none 0 0, .slice none 0 0] 42 (0, 0)) ∧
        wr.heap[w.heap.size + 1 + 1]? = some (.cells #[.int .i64 t.kind, v, .slice none 0 0, .slice none 0 0] 42 (0, 0)) ∧
        Own EKy m 85 2 (w.heap.size + 3) wr v (t.keys.take k) ∧ Below w.heap.size w wr ∧ w.heap.size + 3 ≤ wr.heap.size)) (fun _ i _ => t.keys.length - (intOf i).toNat)
    case atStart =>
      refine ⟨0, .slice none 0 0, Nat.zero_le _, rfl, ?_, ?_, ?_, ?_, ?_, ?_⟩
      · exact al_old (al_old (al_new rfl))
      · exact al_old (al_new (by simp))
      · exact al_new (by simp)
      · exact Own.nil ..
      · exact bl_alloc (bl_alloc (bl_alloc (Below.refl _ _) _) _) _
      · simp
    case round =>
      obtain ⟨k, v, hk, rfl, hI⟩ := hrel
      by_cases hlt : k < t.keys.length
      · have hm1 := HM.out.trans (mle_below hI.out.2.2.2.2.1)
        obtain ⟨b, off, rfl, e0, e1⟩ := HK.out.at hlt
        replace e0 := hm1 _ _ e0
        replace e1 := hm1 _ _ e1
        have hbo : w.heap.size + 1 + 1 < wr.heap.size := by have := hI.out.2.2.2.2.2; omega
        have c1' := cell_blk hI.out.2.2.1 1 rfl
        have f1' := froz_blk hI.out.2.2.1 1
        clear hm1
        go_wp2_with (at_builtin; (refine wpList_snoc em_Ky rfl _ _ _ rfl rfl _ _ rfl (Snoc.flat em_Ky hI.out.2.2.2.1 (HLO.out.mono (by omega)) (bl_alloc (Below.refl _ _) _) (fun _ => eky _ t.keys[k]) sl39 rfl (by simp [Value.oneCell']) (by have := HLN.out; simp; omega) (by have := HLN.out; simp [maxLen]; omega) (by omega)) ?_); intro g' cap w2 hown2 hg2 hv2 hgg; have hO2 := grown_heap hg2 (al_old (al_old hI.out.2.2.1)) (fun k' e => by have := hv2 k' e; omega); have c1'' := cell_blk hO2 1 rfl; have f1'' := froz_blk hO2 1)
        clear c1' f1' c1'' f1''
        go_roundw
        case rel =>
          have el : (t.keys.take k).length = k := by simp; omega
          rw [el, ← List.take_succ_eq_append_getElem hlt] at hown2
          refine ⟨k + 1, _, by omega, by go_num, ?_, ?_, set_blk hO2 1 _, hown2.setLow em_Ky (show w.heap.size + 1 + 1 < w.heap.size + 3 from by omega) _, ?_, ?_⟩
          · exact set_old (grown_heap hg2 (al_old (al_old hI.out.1)) (fun k' e => by have := hv2 k' e; omega)) (show w.heap.size ≠ w.heap.size + 1 + 1 from by omega)
          · exact set_old (grown_heap hg2 (al_old (al_old hI.out.2.1)) (fun k' e => by have := hv2 k' e; omega)) (show w.heap.size + 1 ≠ w.heap.size + 1 + 1 from by omega)
          · exact (bl_grown (bl_alloc (bl_alloc hI.out.2.2.2.2.1 _) _) hg2 (fun k' e => by have := hv2 k' e; omega)).setCell (show w.heap.size ≤ w.heap.size + 1 + 1 from by omega) _
          · have h1 := hg2.size; have h3 := hI.out.2.2.2.2.2; simp at h1 ⊢; omega
        case measure => simp [intOf]; omega
      · obtain rfl : k = t.keys.length := by omega
        obtain ⟨hX, hR, hO, hownk, hbel, hsz⟩ := hI.out
        rw [List.take_length] at hownk
        obtain ⟨x0, x1, x2, x3, x4, x5⟩ := cells6 hX
        obtain ⟨wl, rfl⟩ : ∃ wl : World, wl = wr := ⟨_, rfl⟩
        have HX := Lib.hid hX
        have HR := Lib.hid hR
        have HO := Lib.hid hO
        have HOK := Lib.hid hownk
        have HBL := Lib.hid hbel
        have HSZ := Lib.hid hsz
        obtain ⟨vk, rfl⟩ : ∃ vk : Value, vk = v := ⟨_, rfl⟩
        clear hI hX hR hO hownk hbel hsz
        go_wp2
        go_loopw [7, 34] (fun _ i wr => ∃ (k : Nat) (v : Value), k ≤ t.kids.length ∧ i = .int .i64 k ∧ Hid (
            wr.heap[w.heap.size + 1 + 1]? = some (.cells #[.int .i64 t.kind, vk, v, .slice none 0 0] 42 (0, 0)) ∧
            Own MST m 42 4 wl.heap.size wr v ((t.kids.take k).map toS) ∧ Kp (· = w.heap.size + 1 + 1) wl wr)) (fun _ i _ => t.kids.length - (intOf i).toNat)
        case atStart => exact ⟨0, .slice none 0 0, Nat.zero_le _, rfl, HO.out, Own.nil .., Kp.refl _ _⟩
        case round =>
          obtain ⟨k, v, hk, rfl, hI⟩ := hrel
          have hSW := hI.out.2.2.size
          by_cases hlt : k < t.kids.length
          · have hm1 := hI.out.2.2.mle_lo (HM.out.trans (mle_below HBL.out)) HLO.out (fun i hi => by omega)
            obtain ⟨b, off, kd, nm, tx, ak', nk, ck', a1', n1, c1', a2', n2, c2', rfl, e0, e1, e2, e3, e4, e5, hkv⟩ := H1.out.at hlt
            replace e0 := hm1 _ _ e0
            replace e1 := hm1 _ _ e1
            replace e2 := hm1 _ _ e2
            replace e3 := hm1 _ _ e3
            replace e4 := hm1 _ _ e4
            replace e5 := hm1 _ _ e5
            have HKV := Lib.hid hkv
            have HM1 := Lib.hid hm1
            have HSk := Lib.hid (show SizeOf.sizeOf t.kids[k] < n from by have := IT.lt_kid' (t := t) (List.getElem_mem hlt); have := HN.out; omega)
            have HWk := Lib.hid (show WI t.kids[k] ≤ 1000000 from Nat.le_trans (WI_kid (List.getElem_mem hlt)) HW.out)
            have HV := Lib.hid (fun k' (e : v.ownBlock = some k') => hI.out.2.1.lt k' e)
            clear hkv hm1
            go_wp2
            have HC := Lib.hid (show (wr.alloc (.cells #[.int .i64 kd, .string nm, .string tx, .slice ak' nk ck', .slice a1' n1 c1', .slice a2' n2 c2'] 25)).heap[wr.heap.size]? = _ from al_new rfl)
            have HB := Lib.hid (show (wr.alloc (.cells #[.int .i64 kd, .string nm, .string tx, .slice ak' nk ck', .slice a1' n1 c1', .slice a2' n2 c2'] 25)).heap[w.heap.size + 1 + 1]? = _ from al_old hI.out.1)
            refine start_ (n := 8) (S := fun w' => w'.cell? ⟨w.heap.size + 1 + 1, 2, none⟩ = some v ∧ w'.cell? ⟨wr.heap.size, 0, none⟩ = some (.int .i64 kd) ∧ w'.cell? ⟨wr.heap.size, 1, none⟩ = some (.string nm) ∧ w'.cell? ⟨wr.heap.size, 2, none⟩ = some (.string tx) ∧ w'.cell? ⟨wr.heap.size, 3, none⟩ = some (.slice ak' nk ck') ∧ w'.cell? ⟨wr.heap.size, 4, none⟩ = some (.slice a1' n1 c1') ∧ w'.cell? ⟨wr.heap.size, 5, none⟩ = some (.slice a2' n2 c2')) (ds := [7]) #[false, false, false, false, false, false, false, false] (by kernel_rfl) rfl rfl ⟨cell_blk HB.out 2 rfl, cell_blk HC.out 0 rfl, cell_blk HC.out 1 rfl, cell_blk HC.out 2 rfl, cell_blk HC.out 3 rfl, cell_blk HC.out 4 rfl, cell_blk HC.out 5 rfl⟩ (fun hHeld => ?_)
            refine pure_ (i := 0) (N := some 38) (v := ?_) (a' := ?_) #[true, false, false, false, false, false, false, false] rfl rfl (by kernel_rfl) (fun _ _ _ h => h) (Or.inl ⟨by rfl, ?_⟩) ?_ ?_
            rotate_left
            · intro w'
              go_simp
              with_reducible rfl
            rotate_left
            · simp only [Act.put, List.setIfInBounds_toArray, List.set_cons_zero, List.set_cons_succ, i64_w, i32_w]
              rfl
            refine take_ (i := 1) (N := some 39) (v := ?_) (a' := ?_) #[true, true, false, false, false, false, false, false] rfl rfl (by kernel_rfl) (fun _ _ _ h => h) (Or.inl ⟨by rfl, ?_⟩) hHeld ?_ ?_
            rotate_left
            · rintro w' ⟨s0, s1, s2, s3, s4, s5, s6⟩
              go_simp
              with_reducible rfl
            rotate_left
            · simp only [Act.put, List.setIfInBounds_toArray, List.set_cons_zero, List.set_cons_succ, i64_w, i32_w]
              rfl
            refine take_ (i := 2) (N := some 40) (v := ?_) (a' := ?_) #[true, true, true, false, false, false, false, false] rfl rfl (by kernel_rfl) (fun _ _ _ h => h) (Or.inl ⟨by rfl, ?_⟩) hHeld ?_ ?_
            rotate_left
            · rintro w' ⟨s0, s1, s2, s3, s4, s5, s6⟩
              go_simp
              with_reducible rfl
            rotate_left
            · simp only [Act.put, List.setIfInBounds_toArray, List.set_cons_zero, List.set_cons_succ, i64_w, i32_w]
              rfl
            refine one_ (i := 3) (N := some 41) #[true, true, true, true, false, false, false, false] rfl rfl (by kernel_rfl) (by decide) (fun K hK => ?_)
            refine goes_ Tryz.func43 (by kernel_rfl) rfl #[.agg #[.int .i64 kd, .string nm, .string tx, .slice ak' nk ck', .slice a1' n1 c1', .slice a2' n2 c2']] (by rfl) rfl rfl (by simp only [List.map_toArray, List.map_cons, List.map_nil]; rfl) ?_
            with_reducible refine (IH.out _ m _ _ _ _ _ _ _ _ _ _ _ _ _ HSk.out HWk.out HKV.out (mle_drew (mle_alloc HM1.out _))).mono ?_
            rintro e w1 ⟨kd', ak'', nk', ck'', a1'', n1', c1'', a2'', n2', c2'', rfl, hmv, hbl⟩
            refine ⟨_, rfl, ?_⟩
            have hB1 := bl_heap hbl HB.out
            have hC1 := bl_heap hbl HC.out
            refine hK.out _ _ ⟨cell_blk hB1 2 rfl, cell_blk hC1 0 rfl, cell_blk hC1 1 rfl, cell_blk hC1 2 rfl, cell_blk hC1 3 rfl, cell_blk hC1 4 rfl, cell_blk hC1 5 rfl⟩ (fun hHeld => ?_)
            clear hK K
            refine norm_ (a' := ?_) ?_ ?_
            rotate_left
            · show Act.put _ (some 41) _ = _
              simp only [Act.put, List.setIfInBounds_toArray, List.set_cons_zero, List.set_cons_succ, i64_w, i32_w]
              rfl
            refine one_ (i := 4) (N := some 42) #[true, true, true, true, true, false, false, false] rfl rfl (by kernel_rfl) (by decide) (fun K hK => ?_)
            refine value_ (w1 := ?_) (v := ?_) (by rfl) rfl ?_ ?_
            rotate_left 2
            · go_simp
              constructor
              · rfl
              · rfl
            refine hK.out _ _ ⟨cell_blk (al_old hB1) 2 rfl, cell_blk (al_old hC1) 0 rfl, cell_blk (al_old hC1) 1 rfl, cell_blk (al_old hC1) 2 rfl, cell_blk (al_old hC1) 3 rfl, cell_blk (al_old hC1) 4 rfl, cell_blk (al_old hC1) 5 rfl⟩ (fun hHeld => ?_)
            clear hK K
            refine norm_ (a' := ?_) ?_ ?_
            rotate_left
            · show Act.put _ (some 42) _ = _
              simp only [Act.put, List.setIfInBounds_toArray, List.set_cons_zero, List.set_cons_succ, i64_w, i32_w]
              rfl
            refine one_ (i := 5) (N := some 43) #[true, true, true, true, true, true, false, false] rfl rfl (by kernel_rfl) (by decide) (fun K hK => ?_)
            refine step_snoc em_ST rfl _ _ _ rfl rfl _ _ rfl (Snoc.call em_ST hI.out.2.1 (HLO.out.mono (by have := HSZ.out; omega)) (bl_alloc (Below.refl _ _) _).drew hbl hmv sl40 rfl (by simp [Value.oneCell']) (by have := HLN.out; simp; omega) (by have := HLN.out; simp [maxLen]; omega) hI.out.2.2.size) ?_
            intro g' cap w2 hown2 hg2 hv2 hgg
            have hB2 := grown_heap hg2 (al_old hB1) (fun k' e => by have := hv2 k' e; have := HSZ.out; omega)
            have hC2 := grown_heap hg2 (al_old hC1) (fun k' e => by have := (HV.out k' e).2; omega)
            refine hK.out _ _ ⟨cell_blk hB2 2 rfl, cell_blk hC2 0 rfl, cell_blk hC2 1 rfl, cell_blk hC2 2 rfl, cell_blk hC2 3 rfl, cell_blk hC2 4 rfl, cell_blk hC2 5 rfl⟩ (fun hHeld => ?_)
            clear hK K
            refine norm_ (a' := ?_) ?_ ?_
            rotate_left
            · show Act.put _ (some 43) _ = _
              simp only [Act.put, List.setIfInBounds_toArray, List.set_cons_zero, List.set_cons_succ, i64_w, i32_w]
              rfl
            refine pure_ (i := 6) (N := some 44) (v := ?_) (a' := ?_) #[true, true, true, true, true, true, true, false] rfl rfl (by kernel_rfl) (fun _ _ _ h => h) (Or.inl ⟨by rfl, ?_⟩) ?_ ?_
            rotate_left
            · intro w'
              go_simp
              with_reducible rfl
            rotate_left
            · simp only [Act.put, List.setIfInBounds_toArray, List.set_cons_zero, List.set_cons_succ, i64_w, i32_w]
              rfl
            refine last_ (i := 7) (N := none) #[true, true, true, true, true, true, true, true] rfl rfl (by kernel_rfl) (by decide) (fun K hK => ?_)
            have c3 := cell_blk hB2 2 rfl
            have f3 := froz_blk hB2 2
            refine skip_ (w1 := ?_) (by rfl) rfl ?_ ?_
            rotate_left
            · go_simp
              rfl
            refine hK.out _ _ ?_
            clear hK K
            refine done_ (by kernel_rfl) ?_
            clear c3 f3 hC2
            go_wp2
            go_roundw
            case rel =>
              have el : ((t.kids.take k).map toS).length = k := by simp; omega
              have ek : (t.kids.take (k + 1)).map toS = (t.kids.take k).map toS ++ [toS t.kids[k]] := by rw [List.take_succ_eq_append_getElem hlt, List.map_append, List.map_cons, List.map_nil]
              rw [el, ← ek] at hown2
              have hS := HSZ.out
              refine ⟨k + 1, _, by omega, by go_num, set_blk hB2 2 _, hown2.setLow em_ST (show w.heap.size + 1 + 1 < wl.heap.size from by omega) _, ?_⟩
              exact ((((hI.out.2.2.alloc _).drew.then hbl).alloc _).grown hg2 (fun k' e => .inr (hv2 k' e))).setCell (p := ⟨w.heap.size + 1 + 1, 2, none⟩) (.inl rfl) _
            case measure => simp [intOf]; omega
          · obtain rfl : k = t.kids.length := by omega
            obtain ⟨hO, hown, hkp⟩ := hI.out
            rw [List.take_length] at hown
            have HK1 := Lib.hid hkp
            have HO1 := Lib.hid hO
            have HOW1 := Lib.hid hown
            obtain ⟨x0', x1', x2', x3', x4', x5'⟩ := cells6 (hkp.heap HX.out (by omega))
            obtain ⟨wm, rfl⟩ : ∃ wm : World, wm = wr := ⟨_, rfl⟩
            have HBM := Lib.hid (below_kp HBL.out hkp (fun i hi => by omega))
            have HSM := Lib.hid (show w.heap.size + 3 ≤ wm.heap.size from Nat.le_trans HSZ.out hkp.size)
            obtain ⟨v1, rfl⟩ : ∃ v1 : Value, v1 = v := ⟨_, rfl⟩
            clear hI hO hown hkp x0 x1 x2 x3 x4 x5 hlt hk
            go_wp2
            go_loopw [9, 49] (fun _ i wr => ∃ (k : Nat) (v : Value), k ≤ t.more.length ∧ i = .int .i64 k ∧ Hid (
                wr.heap[w.heap.size + 1 + 1]? = some (.cells #[.int .i64 t.kind, vk, v1, v] 42 (0, 0)) ∧
                Own MST m 42 4 wm.heap.size wr v ((t.more.take k).map toS) ∧ Kp (· = w.heap.size + 1 + 1) wm wr)) (fun _ i _ => t.more.length - (intOf i).toNat)
            case atStart => exact ⟨0, .slice none 0 0, Nat.zero_le _, rfl, HO1.out, Own.nil .., Kp.refl _ _⟩
            case round =>
              obtain ⟨k, v, hk, rfl, hI⟩ := hrel
              have hSW := hI.out.2.2.size
              by_cases hlt : k < t.more.length
              · have hm1 := hI.out.2.2.mle_lo (HM.out.trans (mle_below HBM.out)) HLO.out (fun i hi => by omega)
                obtain ⟨b, off, kd, nm, tx, ak', nk, ck', a1', n1, c1', a2', n2, c2', rfl, e0, e1, e2, e3, e4, e5, hkv⟩ := H2.out.at hlt
                replace e0 := hm1 _ _ e0
                replace e1 := hm1 _ _ e1
                replace e2 := hm1 _ _ e2
                replace e3 := hm1 _ _ e3
                replace e4 := hm1 _ _ e4
                replace e5 := hm1 _ _ e5
                have HKV := Lib.hid hkv
                have HM1 := Lib.hid hm1
                have HSk := Lib.hid (show SizeOf.sizeOf t.more[k] < n from by have := IT.lt_more' (t := t) (List.getElem_mem hlt); have := HN.out; omega)
                have HWk := Lib.hid (show WI t.more[k] ≤ 1000000 from Nat.le_trans (WI_more (List.getElem_mem hlt)) HW.out)
                have HV := Lib.hid (fun k' (e : v.ownBlock = some k') => hI.out.2.1.lt k' e)
                clear hkv hm1
                go_wp2
                have HC := Lib.hid (show (wr.alloc (.cells #[.int .i64 kd, .string nm, .string tx, .slice ak' nk ck', .slice a1' n1 c1', .slice a2' n2 c2'] 25)).heap[wr.heap.size]? = _ from al_new rfl)
                have HB := Lib.hid (show (wr.alloc (.cells #[.int .i64 kd, .string nm, .string tx, .slice ak' nk ck', .slice a1' n1 c1', .slice a2' n2 c2'] 25)).heap[w.heap.size + 1 + 1]? = _ from al_old hI.out.1)
                refine start_ (n := 8) (S := fun w' => w'.cell? ⟨w.heap.size + 1 + 1, 3, none⟩ = some v ∧ w'.cell? ⟨wr.heap.size, 0, none⟩ = some (.int .i64 kd) ∧ w'.cell? ⟨wr.heap.size, 1, none⟩ = some (.string nm) ∧ w'.cell? ⟨wr.heap.size, 2, none⟩ = some (.string tx) ∧ w'.cell? ⟨wr.heap.size, 3, none⟩ = some (.slice ak' nk ck') ∧ w'.cell? ⟨wr.heap.size, 4, none⟩ = some (.slice a1' n1 c1') ∧ w'.cell? ⟨wr.heap.size, 5, none⟩ = some (.slice a2' n2 c2')) (ds := [7]) #[false, false, false, false, false, false, false, false] (by kernel_rfl) rfl rfl ⟨cell_blk HB.out 3 rfl, cell_blk HC.out 0 rfl, cell_blk HC.out 1 rfl, cell_blk HC.out 2 rfl, cell_blk HC.out 3 rfl, cell_blk HC.out 4 rfl, cell_blk HC.out 5 rfl⟩ (fun hHeld => ?_)
                refine pure_ (i := 0) (N := some 53) (v := ?_) (a' := ?_) #[true, false, false, false, false, false, false, false] rfl rfl (by kernel_rfl) (fun _ _ _ h => h) (Or.inl ⟨by rfl, ?_⟩) ?_ ?_
                rotate_left
                · intro w'
                  go_simp
                  with_reducible rfl
                rotate_left
                · simp only [Act.put, List.setIfInBounds_toArray, List.set_cons_zero, List.set_cons_succ, i64_w, i32_w]
                  rfl
                refine take_ (i := 1) (N := some 54) (v := ?_) (a' := ?_) #[true, true, false, false, false, false, false, false] rfl rfl (by kernel_rfl) (fun _ _ _ h => h) (Or.inl ⟨by rfl, ?_⟩) hHeld ?_ ?_
                rotate_left
                · rintro w' ⟨s0, s1, s2, s3, s4, s5, s6⟩
                  go_simp
                  with_reducible rfl
                rotate_left
                · simp only [Act.put, List.setIfInBounds_toArray, List.set_cons_zero, List.set_cons_succ, i64_w, i32_w]
                  rfl
                refine take_ (i := 2) (N := some 55) (v := ?_) (a' := ?_) #[true, true, true, false, false, false, false, false] rfl rfl (by kernel_rfl) (fun _ _ _ h => h) (Or.inl ⟨by rfl, ?_⟩) hHeld ?_ ?_
                rotate_left
                · rintro w' ⟨s0, s1, s2, s3, s4, s5, s6⟩
                  go_simp
                  with_reducible rfl
                rotate_left
                · simp only [Act.put, List.setIfInBounds_toArray, List.set_cons_zero, List.set_cons_succ, i64_w, i32_w]
                  rfl
                refine one_ (i := 3) (N := some 56) #[true, true, true, true, false, false, false, false] rfl rfl (by kernel_rfl) (by decide) (fun K hK => ?_)
                refine goes_ Tryz.func43 (by kernel_rfl) rfl #[.agg #[.int .i64 kd, .string nm, .string tx, .slice ak' nk ck', .slice a1' n1 c1', .slice a2' n2 c2']] (by rfl) rfl rfl (by simp only [List.map_toArray, List.map_cons, List.map_nil]; rfl) ?_
                with_reducible refine (IH.out _ m _ _ _ _ _ _ _ _ _ _ _ _ _ HSk.out HWk.out HKV.out (mle_drew (mle_alloc HM1.out _))).mono ?_
                rintro e w1 ⟨kd', ak'', nk', ck'', a1'', n1', c1'', a2'', n2', c2'', rfl, hmv, hbl⟩
                refine ⟨_, rfl, ?_⟩
                have hB1 := bl_heap hbl HB.out
                have hC1 := bl_heap hbl HC.out
                refine hK.out _ _ ⟨cell_blk hB1 3 rfl, cell_blk hC1 0 rfl, cell_blk hC1 1 rfl, cell_blk hC1 2 rfl, cell_blk hC1 3 rfl, cell_blk hC1 4 rfl, cell_blk hC1 5 rfl⟩ (fun hHeld => ?_)
                clear hK K
                refine norm_ (a' := ?_) ?_ ?_
                rotate_left
                · show Act.put _ (some 56) _ = _
                  simp only [Act.put, List.setIfInBounds_toArray, List.set_cons_zero, List.set_cons_succ, i64_w, i32_w]
                  rfl
                refine one_ (i := 4) (N := some 57) #[true, true, true, true, true, false, false, false] rfl rfl (by kernel_rfl) (by decide) (fun K hK => ?_)
                refine value_ (w1 := ?_) (v := ?_) (by rfl) rfl ?_ ?_
                rotate_left 2
                · go_simp
                  constructor
                  · rfl
                  · rfl
                refine hK.out _ _ ⟨cell_blk (al_old hB1) 3 rfl, cell_blk (al_old hC1) 0 rfl, cell_blk (al_old hC1) 1 rfl, cell_blk (al_old hC1) 2 rfl, cell_blk (al_old hC1) 3 rfl, cell_blk (al_old hC1) 4 rfl, cell_blk (al_old hC1) 5 rfl⟩ (fun hHeld => ?_)
                clear hK K
                refine norm_ (a' := ?_) ?_ ?_
                rotate_left
                · show Act.put _ (some 57) _ = _
                  simp only [Act.put, List.setIfInBounds_toArray, List.set_cons_zero, List.set_cons_succ, i64_w, i32_w]
                  rfl
                refine one_ (i := 5) (N := some 58) #[true, true, true, true, true, true, false, false] rfl rfl (by kernel_rfl) (by decide) (fun K hK => ?_)
                refine step_snoc em_ST rfl _ _ _ rfl rfl _ _ rfl (Snoc.call em_ST hI.out.2.1 (HLO.out.mono (by have := HSM.out; omega)) (bl_alloc (Below.refl _ _) _).drew hbl hmv sl40 rfl (by simp [Value.oneCell']) (by have := HLN.out; simp; omega) (by have := HLN.out; simp [maxLen]; omega) hI.out.2.2.size) ?_
                intro g' cap w2 hown2 hg2 hv2 hgg
                have hB2 := grown_heap hg2 (al_old hB1) (fun k' e => by have := hv2 k' e; have := HSM.out; omega)
                have hC2 := grown_heap hg2 (al_old hC1) (fun k' e => by have := (HV.out k' e).2; omega)
                refine hK.out _ _ ⟨cell_blk hB2 3 rfl, cell_blk hC2 0 rfl, cell_blk hC2 1 rfl, cell_blk hC2 2 rfl, cell_blk hC2 3 rfl, cell_blk hC2 4 rfl, cell_blk hC2 5 rfl⟩ (fun hHeld => ?_)
                clear hK K
                refine norm_ (a' := ?_) ?_ ?_
                rotate_left
                · show Act.put _ (some 58) _ = _
                  simp only [Act.put, List.setIfInBounds_toArray, List.set_cons_zero, List.set_cons_succ, i64_w, i32_w]
                  rfl
                refine pure_ (i := 6) (N := some 59) (v := ?_) (a' := ?_) #[true, true, true, true, true, true, true, false] rfl rfl (by kernel_rfl) (fun _ _ _ h => h) (Or.inl ⟨by rfl, ?_⟩) ?_ ?_
                rotate_left
                · intro w'
                  go_simp
                  with_reducible rfl
                rotate_left
                · simp only [Act.put, List.setIfInBounds_toArray, List.set_cons_zero, List.set_cons_succ, i64_w, i32_w]
                  rfl
                refine last_ (i := 7) (N := none) #[true, true, true, true, true, true, true, true] rfl rfl (by kernel_rfl) (by decide) (fun K hK => ?_)
                have c3 := cell_blk hB2 3 rfl
                have f3 := froz_blk hB2 3
                refine skip_ (w1 := ?_) (by rfl) rfl ?_ ?_
                rotate_left
                · go_simp
                  rfl
                refine hK.out _ _ ?_
                clear hK K
                refine done_ (by kernel_rfl) ?_
                clear c3 f3 hC2
                go_wp2
                go_roundw
                case rel =>
                  have el : ((t.more.take k).map toS).length = k := by simp; omega
                  have ek : (t.more.take (k + 1)).map toS = (t.more.take k).map toS ++ [toS t.more[k]] := by rw [List.take_succ_eq_append_getElem hlt, List.map_append, List.map_cons, List.map_nil]
                  rw [el, ← ek] at hown2
                  have hS := HSM.out
                  refine ⟨k + 1, _, by omega, by go_num, set_blk hB2 3 _, hown2.setLow em_ST (show w.heap.size + 1 + 1 < wm.heap.size from by omega) _, ?_⟩
                  exact ((((hI.out.2.2.alloc _).drew.then hbl).alloc _).grown hg2 (fun k' e => .inr (hv2 k' e))).setCell (p := ⟨w.heap.size + 1 + 1, 3, none⟩) (.inl rfl) _
                case measure => simp [intOf]; omega
              · obtain rfl : k = t.more.length := by omega
                obtain ⟨hO, hown, hkp⟩ := hI.out
                rw [List.take_length] at hown
                have hkB : Below w.heap.size w wr := below_kp HBM.out hkp (fun i hi => by omega)
                have hOK := (HOK.out.kp em_Ky HK1.out (fun i h1 h2 e => by omega)).kp em_Ky hkp (fun i h1 h2 e => by omega)
                have hO1 := HOW1.out.kp em_ST hkp (fun i h1 h2 e => by have := HSZ.out; omega)
                obtain ⟨ak', ck', rfl, lk, rowk⟩ := hOK.rowK
                obtain ⟨a1', c1', rfl, lo1, row1⟩ := hO1.rowST
                obtain ⟨a2', c2', rfl, lo2, row2⟩ := hown.rowST
                have hR := hkp.heap (HK1.out.heap HR.out (by omega)) (by omega)
                obtain ⟨z0, z1, z2, z3⟩ := cells4 hR
                have zf := froz_blk hR
                obtain ⟨o0, o1, o2, o3⟩ := cells4 hO
                have ROWK := Lib.hid rowk
                have ROW1 := Lib.hid row1
                have ROW2 := Lib.hid row2
                have LOKS := Lib.hid (And.intro lk (And.intro lo1 lo2))
                have HBE := Lib.hid hkB
                have hs1 := HSZ.out
                have hs2 := HSM.out
                have hs3 := HK1.out.size
                have hs4 := hkp.size
                clear rowk row1 row2 lk lo1 lo2 hkB hOK hO1 hown hR hO hkp hI
                simp only [List.length_map] at o0 o1 o2 o3
                go_wp2
                refine bodyPost_ret (v := .agg #[.int .i64 t.kind, .slice ak' t.keys.length ck', .slice a1' t.kids.length c1', .slice a2' t.more.length c2']) (by simp [results, Tryz.results43, go_sem, z0, z1, z2, z3]) rfl ⟨_, _, _, _, _, _, _, _, _, _, rfl, ?_, ?_⟩
                · have hl : ∀ B', w.heap.size + 3 ≤ B' → MLe (fr m B' wr none) (fr m w.heap.size ((((wr.setCell ⟨w.heap.size + 1, 0, none⟩ (.int .i64 t.kind)).setCell ⟨w.heap.size + 1, 1, none⟩ (.slice ak' t.keys.length ck')).setCell ⟨w.heap.size + 1, 2, none⟩ (.slice a1' t.kids.length c1')).setCell ⟨w.heap.size + 1, 3, none⟩ (.slice a2' t.more.length c2')) none) := fun B' hB' => fr_lower HLO.out (by omega) fun k h1 h2 => by
                    repeat rw [Below.heap_setCell _ _ _ k (show k ≠ w.heap.size + 1 from by omega)]
                  have := MST.close' (t := toS t) (m := fr m w.heap.size ((((wr.setCell ⟨w.heap.size + 1, 0, none⟩ (.int .i64 t.kind)).setCell ⟨w.heap.size + 1, 1, none⟩ (.slice ak' t.keys.length ck')).setCell ⟨w.heap.size + 1, 2, none⟩ (.slice a1' t.kids.length c1')).setCell ⟨w.heap.size + 1, 3, none⟩ (.slice a2' t.more.length c2')) none) (ak := ak') (a1 := a1') (a2 := a2') (ck := ck') (c1 := c1') (c2 := c2') (by rw [toS_keys]; exact LOKS.out.1) (by rw [toS_kids]; exact LOKS.out.2.1) (by rw [toS_more]; exact LOKS.out.2.2)
                    (by rw [toS_keys]; exact ROWK.out.mono (hl _ (Nat.le_refl _))) (by rw [toS_kids]; exact ROW1.out.mono (hl _ (by omega))) (by rw [toS_more]; exact ROW2.out.mono (hl _ (by omega)))
                  rw [toS_kind, toS_keys, toS_kids, toS_more, List.length_map, List.length_map] at this
                  exact this
                · have hle : w.heap.size ≤ w.heap.size + 1 := by omega
                  exact (((HBE.out.setCell hle _).setCell hle _).setCell hle _).setCell hle _
end Go.Proofs.YtaglgokeejjagaaGreat
