/- 'typeOf' of the laws: the type of a value, with just its items and properties. -/
import Derived.Test.YtaglgokeejjagaaGreatInTy
namespace Go.Proofs.YtaglgokeejjagaaGreat
set_option linter.unusedVariables false
set_option linter.unusedSimpArgs false
open Go.RowKit Go.Sort Go.Proofs.YtaglgokeejjagaaGreatW.PrintLast

def TpOk (t : Vl) : Prop := ∀ (m : Mem) (kd : Int) (tx : ByteArray) (ak : Option Addr) (nk ck : Nat) (a1 : Option Addr) (n1 c1 : Nat) (w : World), PV t → WV t ≤ 5000 → MV m (vlCells kd tx ak nk ck a1 n1 c1) t → MLe m w.cell? →
    Calls Tryz.prog 30 #[.agg #[.int .i64 kd, .string tx, .slice ak nk ck, .slice a1 n1 c1]] w (PlP (tyOf t) w)
theorem pv_flat {t : Vl} (h : PV t) (k : t.kind ≤ 4) : t.keys.length = 0 ∧ t.kids.length = 0 := by
  cases t
  have h4 := h.out
  simp only [Vl.kind, Vl.keys, Vl.kids] at *
  exact ⟨h4.2.2.2.2.2.1 (by omega), by have := h4.2.2.2.1; omega⟩

set_option maxHeartbeats 4000000 in
set_option maxRecDepth 100000 in
theorem tp_0 {tx : ByteArray} {ak : Option Addr} {nk ck : Nat} {a1 : Option Addr} {n1 c1 : Nat} (w : World) (hn : n1 = 0) : Calls Tryz.prog 30 #[.agg #[.int .i64 0, .string tx, .slice ak nk ck, .slice a1 n1 c1]] w (PlP (.mk 1 [] [] []) w) := by
  subst hn
  go_enter Tryz.func30, Tryz.ntmps30
  go_wp2
  refine wp_loop_once ?_
  go_wp2
  refine bodyPost_ret (v := .agg #[.int .i64 1, .string ⟨#[]⟩, .string ⟨#[]⟩, .slice none 0 0, .slice none 0 0, .slice none 0 0]) (by simp [results, Tryz.results30, go_sem]) rfl ⟨_, _, _, _, _, _, _, _, _, rfl, mit_flat _ _, ?_⟩
  repeat (first | exact Below.refl _ _ | refine Below.setCell ?_ (by simp; try omega) _ | refine Below.alloc ?_ (by simp; try omega) _)
set_option maxHeartbeats 4000000 in
set_option maxRecDepth 100000 in
theorem tp_1 {tx : ByteArray} {ak : Option Addr} {nk ck : Nat} {a1 : Option Addr} {n1 c1 : Nat} (w : World) (hn : n1 = 0) : Calls Tryz.prog 30 #[.agg #[.int .i64 1, .string tx, .slice ak nk ck, .slice a1 n1 c1]] w (PlP (.mk 2 [] [] []) w) := by
  subst hn
  go_enter Tryz.func30, Tryz.ntmps30
  go_wp2
  refine wp_loop_once ?_
  go_wp2
  refine bodyPost_ret (v := .agg #[.int .i64 2, .string ⟨#[]⟩, .string ⟨#[]⟩, .slice none 0 0, .slice none 0 0, .slice none 0 0]) (by simp [results, Tryz.results30, go_sem]) rfl ⟨_, _, _, _, _, _, _, _, _, rfl, mit_flat _ _, ?_⟩
  repeat (first | exact Below.refl _ _ | refine Below.setCell ?_ (by simp; try omega) _ | refine Below.alloc ?_ (by simp; try omega) _)
set_option maxHeartbeats 4000000 in
set_option maxRecDepth 100000 in
theorem tp_2 {tx : ByteArray} {ak : Option Addr} {nk ck : Nat} {a1 : Option Addr} {n1 c1 : Nat} (w : World) (hn : n1 = 0) : Calls Tryz.prog 30 #[.agg #[.int .i64 2, .string tx, .slice ak nk ck, .slice a1 n1 c1]] w (PlP (.mk 2 [] [] []) w) := by
  subst hn
  go_enter Tryz.func30, Tryz.ntmps30
  go_wp2
  refine wp_loop_once ?_
  go_wp2
  refine bodyPost_ret (v := .agg #[.int .i64 2, .string ⟨#[]⟩, .string ⟨#[]⟩, .slice none 0 0, .slice none 0 0, .slice none 0 0]) (by simp [results, Tryz.results30, go_sem]) rfl ⟨_, _, _, _, _, _, _, _, _, rfl, mit_flat _ _, ?_⟩
  repeat (first | exact Below.refl _ _ | refine Below.setCell ?_ (by simp; try omega) _ | refine Below.alloc ?_ (by simp; try omega) _)
set_option maxHeartbeats 4000000 in
set_option maxRecDepth 100000 in
theorem tp_3 {tx : ByteArray} {ak : Option Addr} {nk ck : Nat} {a1 : Option Addr} {n1 c1 : Nat} (w : World) (hn : n1 = 0) : Calls Tryz.prog 30 #[.agg #[.int .i64 3, .string tx, .slice ak nk ck, .slice a1 n1 c1]] w (PlP (.mk 3 [] [] []) w) := by
  subst hn
  go_enter Tryz.func30, Tryz.ntmps30
  go_wp2
  refine wp_loop_once ?_
  go_wp2
  refine bodyPost_ret (v := .agg #[.int .i64 3, .string ⟨#[]⟩, .string ⟨#[]⟩, .slice none 0 0, .slice none 0 0, .slice none 0 0]) (by simp [results, Tryz.results30, go_sem]) rfl ⟨_, _, _, _, _, _, _, _, _, rfl, mit_flat _ _, ?_⟩
  repeat (first | exact Below.refl _ _ | refine Below.setCell ?_ (by simp; try omega) _ | refine Below.alloc ?_ (by simp; try omega) _)
set_option maxHeartbeats 4000000 in
set_option maxRecDepth 100000 in
theorem tp_4 {tx : ByteArray} {ak : Option Addr} {nk ck : Nat} {a1 : Option Addr} {n1 c1 : Nat} (w : World) (hn : n1 = 0) : Calls Tryz.prog 30 #[.agg #[.int .i64 4, .string tx, .slice ak nk ck, .slice a1 n1 c1]] w (PlP (.mk 4 [] [] []) w) := by
  subst hn
  go_enter Tryz.func30, Tryz.ntmps30
  go_wp2
  refine wp_loop_once ?_
  go_wp2
  refine bodyPost_ret (v := .agg #[.int .i64 4, .string ⟨#[]⟩, .string ⟨#[]⟩, .slice none 0 0, .slice none 0 0, .slice none 0 0]) (by simp [results, Tryz.results30, go_sem]) rfl ⟨_, _, _, _, _, _, _, _, _, rfl, mit_flat _ _, ?_⟩
  repeat (first | exact Below.refl _ _ | refine Below.setCell ?_ (by simp; try omega) _ | refine Below.alloc ?_ (by simp; try omega) _)

set_option maxHeartbeats 4000000 in
set_option maxRecDepth 100000 in
theorem tp_5 {t : Vl} {m : Mem} {tx : ByteArray} {ak : Option Addr} {nk ck : Nat} {a1 : Option Addr} {c1 : Nat} (w : World) (IH : Hid (∀ k ∈ t.kids, TpOk k)) (hk : t.kind = 5) (hp : PV t) (hw : WV t ≤ 5000) (r1 : RowV m a1 t.kids) (l1 : lenOk t.kids.length c1) (hm : MLe m w.cell?) :
    Calls Tryz.prog 30 #[.agg #[.int .i64 5, .string tx, .slice ak nk ck, .slice a1 t.kids.length c1]] w (PlP (tyOf t) w) := by
  have HT := Lib.hid (show tyOf t = .mk 5 [] (t.kids.map tyOf) [] by rw [tyOf_eq, if_neg (by omega), if_neg (by omega), if_neg (by omega), if_neg (by omega), if_pos hk])
  obtain ⟨l11, l12⟩ := l1
  have H1 := Lib.hid r1
  have HM := Lib.hid hm
  have HP := Lib.hid hp
  have HW := Lib.hid hw
  have HLN := Lib.hid (show t.kids.length ≤ 5000 from Nat.le_trans (WV_kids t) hw)
  have HLO := Lib.hid (lo_of_mle hm)
  clear r1 hm hp hw hk
  go_enter Tryz.func30, Tryz.ntmps30
  go_wp2
  obtain ⟨wl, hwl⟩ : ∃ wl, wl = ((w.alloc (.cells #[.int .i64 5, .string tx, .slice ak nk ck, .slice a1 t.kids.length c1] 29)).alloc (.cells #[.int .i64 0, .string ⟨#[]⟩, .string ⟨#[]⟩, .slice none 0 0, .slice none 0 0, .slice none 0 0] 25)).alloc (.cells #[.int .i64 5, .string ⟨#[]⟩, .string ⟨#[]⟩, .slice none 0 0, .slice none 0 0, .slice none 0 0] 25) := ⟨_, rfl⟩
  have HR := Lib.hid (show wl.heap[w.heap.size + 1]? = some (.cells #[.int .i64 0, .string ⟨#[]⟩, .string ⟨#[]⟩, .slice none 0 0, .slice none 0 0, .slice none 0 0] 25 (0, 0)) by rw [hwl]; exact al_old (al_new (by simp)))
  obtain ⟨vk, hvk⟩ : ∃ vk : Value, vk = .slice none 0 0 := ⟨_, rfl⟩
  have HO := Lib.hid (show wl.heap[w.heap.size + 1 + 1]? = some (.cells #[.int .i64 5, .string ⟨#[]⟩, .string ⟨#[]⟩, vk, .slice none 0 0, .slice none 0 0] 25 (0, 0)) by rw [hwl, hvk]; exact al_new (by simp))
  have HBL := Lib.hid (show Below w.heap.size w wl by rw [hwl]; exact bl_alloc (bl_alloc (bl_alloc (Below.refl _ _) _) _) _)
  have HSZ := Lib.hid (show w.heap.size + 3 ≤ wl.heap.size by rw [hwl]; simp)
  rw [← hwl]
  clear hwl
  have HVK := Lib.hid (show ∃ ka kc, vk = .slice ka ([] : List Ky).length kc ∧ lenOk ([] : List Ky).length kc ∧ RowK (fr m0 (w.heap.size + 3) wl none) ka [] from ⟨none, 0, hvk, len0, rowKn _ _⟩)
  clear hvk
  go_loopw [7, 46] (fun _ i wr => ∃ (k : Nat) (v : Value), k ≤ t.kids.length ∧ i = .int .i64 k ∧ Hid (
      wr.heap[w.heap.size + 1 + 1]? = some (.cells #[.int .i64 5, .string ⟨#[]⟩, .string ⟨#[]⟩, vk, v, .slice none 0 0] 25 (0, 0)) ∧
      Own MIT m0 25 6 wl.heap.size wr v ((t.kids.take k).map fun t => toI (tyOf t)) ∧ Kp (· = w.heap.size + 1 + 1) wl wr)) (fun _ i _ => t.kids.length - (intOf i).toNat)
  case atStart => exact ⟨0, .slice none 0 0, Nat.zero_le _, rfl, HO.out, Own.nil .., Kp.refl _ _⟩
  case round =>
    obtain ⟨k, v, hk, rfl, hI⟩ := hrel
    have hSW := hI.out.2.2.size
    by_cases hlt : k < t.kids.length
    · have hm1 := hI.out.2.2.mle_lo (HM.out.trans (mle_below HBL.out)) HLO.out (fun i hi => by omega)
      obtain ⟨b, off, kd, tx, ak', nk, ck', a1', n1, c1', rfl, e0, e1, e2, e3, hkv⟩ := H1.out.at hlt
      replace e0 := hm1 _ _ e0
      replace e1 := hm1 _ _ e1
      replace e2 := hm1 _ _ e2
      replace e3 := hm1 _ _ e3
      have HKV := Lib.hid hkv
      have HM1 := Lib.hid hm1
      have HPk := Lib.hid (HP.out.kid hlt)
      have HWk := Lib.hid (show WV t.kids[k] ≤ 5000 from Nat.le_trans (WV_kid (List.getElem_mem hlt)) HW.out)
      have HIN := Lib.hid (fun (W : World) (hW : MLe m W.cell?) => show Calls Tryz.prog 30 #[.agg #[.int .i64 kd, .string tx, .slice ak' nk ck', .slice a1' n1 c1']] W (PlP (tyOf t.kids[k]) W) from IH.out t.kids[k] (List.getElem_mem hlt) m _ _ _ _ _ _ _ _ W HPk.out HWk.out HKV.out hW)
      have HV := Lib.hid (fun k' (e : v.ownBlock = some k') => hI.out.2.1.lt k' e)
      clear hkv hm1
      go_wp2
      have HC := Lib.hid (show (wr.alloc (.cells #[.int .i64 kd, .string tx, .slice ak' nk ck', .slice a1' n1 c1'] 29)).heap[wr.heap.size]? = _ from al_new rfl)
      have HB := Lib.hid (show (wr.alloc (.cells #[.int .i64 kd, .string tx, .slice ak' nk ck', .slice a1' n1 c1'] 29)).heap[w.heap.size + 1 + 1]? = _ from al_old hI.out.1)
      refine start_ (n := 8) (S := fun w' => w'.cell? ⟨w.heap.size + 1 + 1, 4, none⟩ = some v ∧ w'.cell? ⟨wr.heap.size, 0, none⟩ = some (.int .i64 kd) ∧ w'.cell? ⟨wr.heap.size, 1, none⟩ = some (.string tx) ∧ w'.cell? ⟨wr.heap.size, 2, none⟩ = some (.slice ak' nk ck') ∧ w'.cell? ⟨wr.heap.size, 3, none⟩ = some (.slice a1' n1 c1')) (ds := [7]) #[false, false, false, false, false, false, false, false] (by kernel_rfl) rfl rfl ⟨cell_blk HB.out 4 rfl, cell_blk HC.out 0 rfl, cell_blk HC.out 1 rfl, cell_blk HC.out 2 rfl, cell_blk HC.out 3 rfl⟩ (fun hHeld => ?_)
      refine pure_ (i := 0) (N := some 50) (v := ?_) (a' := ?_) #[true, false, false, false, false, false, false, false] rfl rfl (by kernel_rfl) (fun _ _ _ h => h) (Or.inl ⟨by rfl, ?_⟩) ?_ ?_
      rotate_left
      · intro w'
        go_simp
        with_reducible rfl
      rotate_left
      · simp only [Act.put, List.setIfInBounds_toArray, List.set_cons_zero, List.set_cons_succ, i64_w, i32_w]
        rfl
      refine take_ (i := 1) (N := some 51) (v := ?_) (a' := ?_) #[true, true, false, false, false, false, false, false] rfl rfl (by kernel_rfl) (fun _ _ _ h => h) (Or.inl ⟨by rfl, ?_⟩) hHeld ?_ ?_
      rotate_left
      · rintro w' ⟨s0, s1, s2, s3, s4⟩
        go_simp
        with_reducible rfl
      rotate_left
      · simp only [Act.put, List.setIfInBounds_toArray, List.set_cons_zero, List.set_cons_succ, i64_w, i32_w]
        rfl
      refine take_ (i := 2) (N := some 52) (v := ?_) (a' := ?_) #[true, true, true, false, false, false, false, false] rfl rfl (by kernel_rfl) (fun _ _ _ h => h) (Or.inl ⟨by rfl, ?_⟩) hHeld ?_ ?_
      rotate_left
      · rintro w' ⟨s0, s1, s2, s3, s4⟩
        go_simp
        with_reducible rfl
      rotate_left
      · simp only [Act.put, List.setIfInBounds_toArray, List.set_cons_zero, List.set_cons_succ, i64_w, i32_w]
        rfl
      refine one_ (i := 3) (N := some 53) #[true, true, true, true, false, false, false, false] rfl rfl (by kernel_rfl) (by decide) (fun K hK => ?_)
      refine goes_ Tryz.func30 (by kernel_rfl) rfl #[.agg #[.int .i64 kd, .string tx, .slice ak' nk ck', .slice a1' n1 c1']] (by rfl) rfl rfl (by simp only [List.map_toArray, List.map_cons, List.map_nil]; rfl) ?_
      with_reducible refine (HIN.out _ (mle_drew (mle_alloc HM1.out _))).mono ?_
      rintro e w1 ⟨ak'', nk', ck'', a1'', n1', c1'', a2'', n2', c2'', rfl, hmv, hbl⟩
      refine ⟨_, rfl, ?_⟩
      have hB1 := bl_heap hbl HB.out
      have hC1 := bl_heap hbl HC.out
      refine hK.out _ _ ⟨cell_blk hB1 4 rfl, cell_blk hC1 0 rfl, cell_blk hC1 1 rfl, cell_blk hC1 2 rfl, cell_blk hC1 3 rfl⟩ (fun hHeld => ?_)
      clear hK K
      refine norm_ (a' := ?_) ?_ ?_
      rotate_left
      · show Act.put _ (some 53) _ = _
        simp only [Act.put, List.setIfInBounds_toArray, List.set_cons_zero, List.set_cons_succ, i64_w, i32_w]
        rfl
      refine one_ (i := 4) (N := some 54) #[true, true, true, true, true, false, false, false] rfl rfl (by kernel_rfl) (by decide) (fun K hK => ?_)
      refine value_ (w1 := ?_) (v := ?_) (by rfl) rfl ?_ ?_
      rotate_left 2
      · go_simp
        constructor
        · rfl
        · rfl
      refine hK.out _ _ ⟨cell_blk (al_old hB1) 4 rfl, cell_blk (al_old hC1) 0 rfl, cell_blk (al_old hC1) 1 rfl, cell_blk (al_old hC1) 2 rfl, cell_blk (al_old hC1) 3 rfl⟩ (fun hHeld => ?_)
      clear hK K
      refine norm_ (a' := ?_) ?_ ?_
      rotate_left
      · show Act.put _ (some 54) _ = _
        simp only [Act.put, List.setIfInBounds_toArray, List.set_cons_zero, List.set_cons_succ, i64_w, i32_w]
        rfl
      refine one_ (i := 5) (N := some 55) #[true, true, true, true, true, true, false, false] rfl rfl (by kernel_rfl) (by decide) (fun K hK => ?_)
      refine step_snoc em_IT rfl _ _ _ rfl rfl _ _ rfl (Snoc.call (y := toI (tyOf t.kids[k])) em_IT hI.out.2.1 (lo_m0 _) (bl_alloc (Below.refl _ _) _).drew hbl hmv sl23 rfl (by simp [Value.oneCell']) (by have := HLN.out; simp; omega) (by have := HLN.out; simp [maxLen]; omega) hI.out.2.2.size) ?_
      intro g' cap w2 hown2 hg2 hv2 hgg
      have hB2 := grown_heap hg2 (al_old hB1) (fun k' e => by have := hv2 k' e; have := HSZ.out; omega)
      have hC2 := grown_heap hg2 (al_old hC1) (fun k' e => by have := (HV.out k' e).2; omega)
      refine hK.out _ _ ⟨cell_blk hB2 4 rfl, cell_blk hC2 0 rfl, cell_blk hC2 1 rfl, cell_blk hC2 2 rfl, cell_blk hC2 3 rfl⟩ (fun hHeld => ?_)
      clear hK K
      refine norm_ (a' := ?_) ?_ ?_
      rotate_left
      · show Act.put _ (some 55) _ = _
        simp only [Act.put, List.setIfInBounds_toArray, List.set_cons_zero, List.set_cons_succ, i64_w, i32_w]
        rfl
      refine pure_ (i := 6) (N := some 56) (v := ?_) (a' := ?_) #[true, true, true, true, true, true, true, false] rfl rfl (by kernel_rfl) (fun _ _ _ h => h) (Or.inl ⟨by rfl, ?_⟩) ?_ ?_
      rotate_left
      · intro w'
        go_simp
        with_reducible rfl
      rotate_left
      · simp only [Act.put, List.setIfInBounds_toArray, List.set_cons_zero, List.set_cons_succ, i64_w, i32_w]
        rfl
      refine last_ (i := 7) (N := none) #[true, true, true, true, true, true, true, true] rfl rfl (by kernel_rfl) (by decide) (fun K hK => ?_)
      have c3 := cell_blk hB2 4 rfl
      have f3 := froz_blk hB2 4
      refine skip_ (w1 := ?_) (by rfl) rfl ?_ ?_
      rotate_left
      · go_simp
        rfl
      refine hK.out _ _ ?_
      clear hK K
      refine done_ (by kernel_rfl) ?_
      clear c3 f3 hC2
      go_wp2
      go_roundw
      case rel =>
        have el : ((t.kids.take k).map fun t => toI (tyOf t)).length = k := by simp; omega
        have ek : ((t.kids.take (k + 1)).map fun t => toI (tyOf t)) = ((t.kids.take k).map fun t => toI (tyOf t)) ++ [toI (tyOf t.kids[k])] := by rw [List.take_succ_eq_append_getElem hlt, List.map_append, List.map_cons, List.map_nil]
        rw [el, ← ek] at hown2
        have hS := HSZ.out
        refine ⟨k + 1, _, by omega, by go_num, set_blk hB2 4 _, hown2.setLow em_IT (show w.heap.size + 1 + 1 < wl.heap.size from by omega) _, ?_⟩
        exact ((((hI.out.2.2.alloc _).drew.then hbl).alloc _).grown hg2 (fun k' e => .inr (hv2 k' e))).setCell (p := ⟨w.heap.size + 1 + 1, 4, none⟩) (.inl rfl) _
      case measure => simp [intOf]; omega
    · obtain rfl : k = t.kids.length := by omega
      obtain ⟨hO, hown, hkp⟩ := hI.out
      rw [List.take_length] at hown
      have hkB : Below w.heap.size w wr := below_kp HBL.out hkp (fun i hi => by omega)
      obtain ⟨a1', c1', rfl, lo1, row1⟩ := hown.rowIT
      have hR := hkp.heap HR.out (by omega)
      obtain ⟨z0, z1, z2, z3, z4, z5⟩ := cells6 hR
      have zf := froz_blk hR
      obtain ⟨o0, o1, o2, o3, o4, o5⟩ := cells6 hO
      have ROW1 := Lib.hid row1
      have LO1 := Lib.hid lo1
      have HBE := Lib.hid hkB
      have HKP := Lib.hid hkp
      have hs1 := HSZ.out
      have hs4 := hkp.size
      clear row1 lo1 hkB hown hR hO hkp hI
      simp only [List.length_map] at o4
      obtain ⟨ka, kc, e1, e2, e3⟩ := HVK.out
      have HE2 := Lib.hid e2
      have HE3 := Lib.hid e3
      clear e2 e3
      subst e1
      go_wp2
      refine bodyPost_ret (v := .agg #[.int .i64 5, .string ⟨#[]⟩, .string ⟨#[]⟩, .slice ka 0 kc, .slice a1' t.kids.length c1', .slice none 0 0]) (by simp [results, Tryz.results30, go_sem, z0, z1, z2, z3, z4, z5]) rfl ?_
      rw [HT.out]
      have hk6 : ∀ (x0 x1 x2 x3 x4 x5 : Value) k, w.heap.size + 3 ≤ k → ((((((wr.setCell ⟨w.heap.size + 1, 0, none⟩ x0).setCell ⟨w.heap.size + 1, 1, none⟩ x1).setCell ⟨w.heap.size + 1, 2, none⟩ x2).setCell ⟨w.heap.size + 1, 3, none⟩ x3).setCell ⟨w.heap.size + 1, 4, none⟩ x4).setCell ⟨w.heap.size + 1, 5, none⟩ x5).heap[k]? = wr.heap[k]? := fun x0 x1 x2 x3 x4 x5 k h1 => by
        repeat rw [Below.heap_setCell _ _ _ k (show k ≠ w.heap.size + 1 from by omega)]
      refine ⟨_, _, _, _, _, _, _, _, _, rfl, ?_, ?_⟩
      · refine mit_mk (by simp) (by simp) rfl (by simpa using HE2.out) (by simpa using LO1.out) len0 (HE3.out.mono (fr_deep (lo_m0 _) (by omega) (fun k e => by cases e) (fun k h1 h2 _ => ?_) (.inl rfl))) ?_ (rowIT_nil _ _)
        · rw [hk6 _ _ _ _ _ _ k h1]
          exact HKP.out.block k h2 (by omega)
        · rw [List.map_map]
          exact ROW1.out.mono (fr_lower (lo_m0 _) (by omega) (fun k h1 h2 => hk6 _ _ _ _ _ _ k (by omega)))
      · have hle : w.heap.size ≤ w.heap.size + 1 := by omega
        exact (((((HBE.out.setCell hle _).setCell hle _).setCell hle _).setCell hle _).setCell hle _).setCell hle _

set_option maxHeartbeats 4000000 in
set_option maxRecDepth 100000 in
theorem tp_6 {t : Vl} {m : Mem} {tx : ByteArray} {ak : Option Addr} {ck : Nat} {a1 : Option Addr} {c1 : Nat} (w : World) (IH : Hid (∀ k ∈ t.kids, TpOk k)) (hk : t.kind = 6) (hp : PV t) (hw : WV t ≤ 5000) (rk : RowS m ak t.keys) (lk : lenOk t.keys.length ck) (r1 : RowV m a1 t.kids) (l1 : lenOk t.kids.length c1) (hm : MLe m w.cell?) :
    Calls Tryz.prog 30 #[.agg #[.int .i64 6, .string tx, .slice ak t.keys.length ck, .slice a1 t.kids.length c1]] w (PlP (tyOf t) w) := by
  have HT := Lib.hid (show tyOf t = .mk 6 (t.keys.map fun k => ⟨4, k⟩) (t.kids.map tyOf) [] by rw [tyOf_eq, if_neg (by omega), if_neg (by omega), if_neg (by omega), if_neg (by omega), if_neg (by omega)])
  obtain ⟨l11, l12⟩ := l1
  obtain ⟨lk1, lk2⟩ := lk
  have HK := Lib.hid rk
  have H1 := Lib.hid r1
  have HM := Lib.hid hm
  have HP := Lib.hid hp
  have HW := Lib.hid hw
  have HLN := Lib.hid (show t.kids.length ≤ 5000 from Nat.le_trans (WV_kids t) hw)
  have HLK := Lib.hid (show t.keys.length ≤ 5000 from Nat.le_trans (WV_keys t) hw)
  have HLO := Lib.hid (lo_of_mle hm)
  clear r1 rk hm hp hw hk
  go_enter Tryz.func30, Tryz.ntmps30
  go_wp2
  go_loopw [15] (fun i wr => ∃ (k : Nat) (v : Value), k ≤ t.keys.length ∧ i = .int .i64 k ∧ Hid (
      wr.heap[w.heap.size]? = some (.cells #[.int .i64 6, .string tx, .slice ak t.keys.length ck, .slice a1 t.kids.length c1] 29 (0, 0)) ∧ wr.heap[w.heap.size + 1]? = some (.cells #[.int .i64 0, .string ⟨#[]⟩, .string ⟨#[]⟩, .slice none 0 0, .slice none 0 0, .slice none 0 0] 25 (0, 0)) ∧
      wr.heap[w.heap.size + 1 + 1]? = some (.cells #[.int .i64 6, .string ⟨#[]⟩, .string ⟨#[]⟩, v, .slice none 0 0, .slice none 0 0] 25 (0, 0)) ∧
      Own EKy m0 54 2 (w.heap.size + 3) wr v ((t.keys.take k).map fun k => ⟨4, k⟩) ∧ Below w.heap.size w wr ∧ w.heap.size + 3 ≤ wr.heap.size)) (fun i _ => t.keys.length - (intOf i).toNat)
  case atStart =>
    refine ⟨0, .slice none 0 0, Nat.zero_le _, rfl, ?_, ?_, ?_, ?_, ?_, ?_⟩
    · exact al_old (al_old (al_new rfl))
    · exact al_old (al_new (by simp))
    · exact al_new (by simp)
    · exact Own.nil ..
    · exact bl_alloc (bl_alloc (bl_alloc (Below.refl _ _) _) _) _
    · simp
  case round =>
    obtain ⟨k, v, hk, rfl, hI⟩ := hrel
    by_cases hlt : k < t.keys.length
    · have hm1 := HM.out.trans (mle_below hI.out.2.2.2.2.1)
      obtain ⟨b, off, rfl, e0⟩ := HK.out.at hlt
      replace e0 := hm1 _ _ e0
      have hbo : w.heap.size + 1 + 1 < wr.heap.size := by have := hI.out.2.2.2.2.2; omega
      have c1' := cell_blk hI.out.2.2.1 3 rfl
      have f1' := froz_blk hI.out.2.2.1 3
      have HZL := Lib.hid (show ((t.keys.take k).map fun k => (⟨4, k⟩ : Ky)).length = k by simp; omega)
      clear hm1
      go_wp2_with (at_builtin; (refine wpList_snoc em_Ky rfl _ _ _ rfl rfl _ _ rfl (Snoc.flat (y := ⟨4, t.keys[k]⟩) em_Ky hI.out.2.2.2.1 (lo_m0 _) (Below.refl _ _) (fun _ => eky _ ⟨4, t.keys[k]⟩) sl22 rfl (by simp [Value.oneCell']) (by have := HLK.out; have := HZL.out; omega) (by have := HLK.out; have := HZL.out; simp only [maxLen]; omega) (by omega)) ?_); intro g' cap w2 hown2 hg2 hv2 hgg; have hO2 := grown_heap hg2 (al_old hI.out.2.2.1) (fun k' e => by have := hv2 k' e; omega); have c1'' := cell_blk hO2 3 rfl; have f1'' := froz_blk hO2 3)
      clear c1' f1' c1'' f1''
      go_roundw
      case rel =>
        have ek : ((t.keys.take (k + 1)).map fun k => (⟨4, k⟩ : Ky)) = ((t.keys.take k).map fun k => ⟨4, k⟩) ++ [⟨4, t.keys[k]⟩] := by rw [List.take_succ_eq_append_getElem hlt, List.map_append, List.map_cons, List.map_nil]
        rw [HZL.out, ← ek] at hown2
        refine ⟨k + 1, _, by omega, by go_num, ?_, ?_, set_blk hO2 3 _, hown2.setLow em_Ky (show w.heap.size + 1 + 1 < w.heap.size + 3 from by omega) _, ?_, ?_⟩
        · exact set_old (grown_heap hg2 (al_old hI.out.1) (fun k' e => by have := hv2 k' e; omega)) (show w.heap.size ≠ w.heap.size + 1 + 1 from by omega)
        · exact set_old (grown_heap hg2 (al_old hI.out.2.1) (fun k' e => by have := hv2 k' e; omega)) (show w.heap.size + 1 ≠ w.heap.size + 1 + 1 from by omega)
        · exact (bl_grown (bl_alloc hI.out.2.2.2.2.1 _) hg2 (fun k' e => by have := hv2 k' e; omega)).setCell (show w.heap.size ≤ w.heap.size + 1 + 1 from by omega) _
        · have h1 := hg2.size; have h3 := hI.out.2.2.2.2.2; simp at h1 ⊢; omega
      case measure => simp [intOf]; omega
    · obtain rfl : k = t.keys.length := by omega
      obtain ⟨hX, hR, hO, hownk, hbel, hsz⟩ := hI.out
      rw [List.take_length] at hownk
      obtain ⟨x0, x1, x2, x3⟩ := cells4 hX
      obtain ⟨wl, hwl⟩ : ∃ wl : World, wl = wr := ⟨_, rfl⟩
      subst hwl
      have HR := Lib.hid hR
      have HO := Lib.hid hO
      have HVK := Lib.hid (show ∃ ka kc, v = .slice ka (t.keys.map fun k => (⟨4, k⟩ : Ky)).length kc ∧ lenOk (t.keys.map fun k => (⟨4, k⟩ : Ky)).length kc ∧ RowK (fr m0 (w.heap.size + 3) wl none) ka (t.keys.map fun k => (⟨4, k⟩ : Ky)) from by
        obtain ⟨ka, kc, e1, e2, e3⟩ := hownk.rowK
        exact ⟨ka, kc, e1, e2, e3⟩)
      have HBL := Lib.hid hbel
      have HSZ := Lib.hid hsz
      obtain ⟨vk, hvk⟩ : ∃ vk : Value, vk = v := ⟨_, rfl⟩
      subst hvk
      clear hI hX hR hO hownk hbel hsz
      go_wp2
      clear x0 x1 x2 x3
      go_loopw [7, 46] (fun _ i wr => ∃ (k : Nat) (v : Value), k ≤ t.kids.length ∧ i = .int .i64 k ∧ Hid (
          wr.heap[w.heap.size + 1 + 1]? = some (.cells #[.int .i64 6, .string ⟨#[]⟩, .string ⟨#[]⟩, vk, v, .slice none 0 0] 25 (0, 0)) ∧
          Own MIT m0 25 6 wl.heap.size wr v ((t.kids.take k).map fun t => toI (tyOf t)) ∧ Kp (· = w.heap.size + 1 + 1) wl wr)) (fun _ i _ => t.kids.length - (intOf i).toNat)
      case atStart => exact ⟨0, .slice none 0 0, Nat.zero_le _, rfl, HO.out, Own.nil .., Kp.refl _ _⟩
      case round =>
        obtain ⟨k, v, hk, rfl, hI⟩ := hrel
        have hSW := hI.out.2.2.size
        by_cases hlt : k < t.kids.length
        · have hm1 := hI.out.2.2.mle_lo (HM.out.trans (mle_below HBL.out)) HLO.out (fun i hi => by omega)
          obtain ⟨b, off, kd, tx, ak', nk, ck', a1', n1, c1', rfl, e0, e1, e2, e3, hkv⟩ := H1.out.at hlt
          replace e0 := hm1 _ _ e0
          replace e1 := hm1 _ _ e1
          replace e2 := hm1 _ _ e2
          replace e3 := hm1 _ _ e3
          have HKV := Lib.hid hkv
          have HM1 := Lib.hid hm1
          have HPk := Lib.hid (HP.out.kid hlt)
          have HWk := Lib.hid (show WV t.kids[k] ≤ 5000 from Nat.le_trans (WV_kid (List.getElem_mem hlt)) HW.out)
          have HIN := Lib.hid (fun (W : World) (hW : MLe m W.cell?) => show Calls Tryz.prog 30 #[.agg #[.int .i64 kd, .string tx, .slice ak' nk ck', .slice a1' n1 c1']] W (PlP (tyOf t.kids[k]) W) from IH.out t.kids[k] (List.getElem_mem hlt) m _ _ _ _ _ _ _ _ W HPk.out HWk.out HKV.out hW)
          have HV := Lib.hid (fun k' (e : v.ownBlock = some k') => hI.out.2.1.lt k' e)
          clear hkv hm1
          go_wp2
          have HC := Lib.hid (show (wr.alloc (.cells #[.int .i64 kd, .string tx, .slice ak' nk ck', .slice a1' n1 c1'] 29)).heap[wr.heap.size]? = _ from al_new rfl)
          have HB := Lib.hid (show (wr.alloc (.cells #[.int .i64 kd, .string tx, .slice ak' nk ck', .slice a1' n1 c1'] 29)).heap[w.heap.size + 1 + 1]? = _ from al_old hI.out.1)
          refine start_ (n := 8) (S := fun w' => w'.cell? ⟨w.heap.size + 1 + 1, 4, none⟩ = some v ∧ w'.cell? ⟨wr.heap.size, 0, none⟩ = some (.int .i64 kd) ∧ w'.cell? ⟨wr.heap.size, 1, none⟩ = some (.string tx) ∧ w'.cell? ⟨wr.heap.size, 2, none⟩ = some (.slice ak' nk ck') ∧ w'.cell? ⟨wr.heap.size, 3, none⟩ = some (.slice a1' n1 c1')) (ds := [7]) #[false, false, false, false, false, false, false, false] (by kernel_rfl) rfl rfl ⟨cell_blk HB.out 4 rfl, cell_blk HC.out 0 rfl, cell_blk HC.out 1 rfl, cell_blk HC.out 2 rfl, cell_blk HC.out 3 rfl⟩ (fun hHeld => ?_)
          refine pure_ (i := 0) (N := some 50) (v := ?_) (a' := ?_) #[true, false, false, false, false, false, false, false] rfl rfl (by kernel_rfl) (fun _ _ _ h => h) (Or.inl ⟨by rfl, ?_⟩) ?_ ?_
          rotate_left
          · intro w'
            go_simp
            with_reducible rfl
          rotate_left
          · simp only [Act.put, List.setIfInBounds_toArray, List.set_cons_zero, List.set_cons_succ, i64_w, i32_w]
            rfl
          refine take_ (i := 1) (N := some 51) (v := ?_) (a' := ?_) #[true, true, false, false, false, false, false, false] rfl rfl (by kernel_rfl) (fun _ _ _ h => h) (Or.inl ⟨by rfl, ?_⟩) hHeld ?_ ?_
          rotate_left
          · rintro w' ⟨s0, s1, s2, s3, s4⟩
            go_simp
            with_reducible rfl
          rotate_left
          · simp only [Act.put, List.setIfInBounds_toArray, List.set_cons_zero, List.set_cons_succ, i64_w, i32_w]
            rfl
          refine take_ (i := 2) (N := some 52) (v := ?_) (a' := ?_) #[true, true, true, false, false, false, false, false] rfl rfl (by kernel_rfl) (fun _ _ _ h => h) (Or.inl ⟨by rfl, ?_⟩) hHeld ?_ ?_
          rotate_left
          · rintro w' ⟨s0, s1, s2, s3, s4⟩
            go_simp
            with_reducible rfl
          rotate_left
          · simp only [Act.put, List.setIfInBounds_toArray, List.set_cons_zero, List.set_cons_succ, i64_w, i32_w]
            rfl
          refine one_ (i := 3) (N := some 53) #[true, true, true, true, false, false, false, false] rfl rfl (by kernel_rfl) (by decide) (fun K hK => ?_)
          refine goes_ Tryz.func30 (by kernel_rfl) rfl #[.agg #[.int .i64 kd, .string tx, .slice ak' nk ck', .slice a1' n1 c1']] (by rfl) rfl rfl (by simp only [List.map_toArray, List.map_cons, List.map_nil]; rfl) ?_
          with_reducible refine (HIN.out _ (mle_drew (mle_alloc HM1.out _))).mono ?_
          rintro e w1 ⟨ak'', nk', ck'', a1'', n1', c1'', a2'', n2', c2'', rfl, hmv, hbl⟩
          refine ⟨_, rfl, ?_⟩
          have hB1 := bl_heap hbl HB.out
          have hC1 := bl_heap hbl HC.out
          refine hK.out _ _ ⟨cell_blk hB1 4 rfl, cell_blk hC1 0 rfl, cell_blk hC1 1 rfl, cell_blk hC1 2 rfl, cell_blk hC1 3 rfl⟩ (fun hHeld => ?_)
          clear hK K
          refine norm_ (a' := ?_) ?_ ?_
          rotate_left
          · show Act.put _ (some 53) _ = _
            simp only [Act.put, List.setIfInBounds_toArray, List.set_cons_zero, List.set_cons_succ, i64_w, i32_w]
            rfl
          refine one_ (i := 4) (N := some 54) #[true, true, true, true, true, false, false, false] rfl rfl (by kernel_rfl) (by decide) (fun K hK => ?_)
          refine value_ (w1 := ?_) (v := ?_) (by rfl) rfl ?_ ?_
          rotate_left 2
          · go_simp
            constructor
            · rfl
            · rfl
          refine hK.out _ _ ⟨cell_blk (al_old hB1) 4 rfl, cell_blk (al_old hC1) 0 rfl, cell_blk (al_old hC1) 1 rfl, cell_blk (al_old hC1) 2 rfl, cell_blk (al_old hC1) 3 rfl⟩ (fun hHeld => ?_)
          clear hK K
          refine norm_ (a' := ?_) ?_ ?_
          rotate_left
          · show Act.put _ (some 54) _ = _
            simp only [Act.put, List.setIfInBounds_toArray, List.set_cons_zero, List.set_cons_succ, i64_w, i32_w]
            rfl
          refine one_ (i := 5) (N := some 55) #[true, true, true, true, true, true, false, false] rfl rfl (by kernel_rfl) (by decide) (fun K hK => ?_)
          refine step_snoc em_IT rfl _ _ _ rfl rfl _ _ rfl (Snoc.call (y := toI (tyOf t.kids[k])) em_IT hI.out.2.1 (lo_m0 _) (bl_alloc (Below.refl _ _) _).drew hbl hmv sl23 rfl (by simp [Value.oneCell']) (by have := HLN.out; simp; omega) (by have := HLN.out; simp [maxLen]; omega) hI.out.2.2.size) ?_
          intro g' cap w2 hown2 hg2 hv2 hgg
          have hB2 := grown_heap hg2 (al_old hB1) (fun k' e => by have := hv2 k' e; have := HSZ.out; omega)
          have hC2 := grown_heap hg2 (al_old hC1) (fun k' e => by have := (HV.out k' e).2; omega)
          refine hK.out _ _ ⟨cell_blk hB2 4 rfl, cell_blk hC2 0 rfl, cell_blk hC2 1 rfl, cell_blk hC2 2 rfl, cell_blk hC2 3 rfl⟩ (fun hHeld => ?_)
          clear hK K
          refine norm_ (a' := ?_) ?_ ?_
          rotate_left
          · show Act.put _ (some 55) _ = _
            simp only [Act.put, List.setIfInBounds_toArray, List.set_cons_zero, List.set_cons_succ, i64_w, i32_w]
            rfl
          refine pure_ (i := 6) (N := some 56) (v := ?_) (a' := ?_) #[true, true, true, true, true, true, true, false] rfl rfl (by kernel_rfl) (fun _ _ _ h => h) (Or.inl ⟨by rfl, ?_⟩) ?_ ?_
          rotate_left
          · intro w'
            go_simp
            with_reducible rfl
          rotate_left
          · simp only [Act.put, List.setIfInBounds_toArray, List.set_cons_zero, List.set_cons_succ, i64_w, i32_w]
            rfl
          refine last_ (i := 7) (N := none) #[true, true, true, true, true, true, true, true] rfl rfl (by kernel_rfl) (by decide) (fun K hK => ?_)
          have c3 := cell_blk hB2 4 rfl
          have f3 := froz_blk hB2 4
          refine skip_ (w1 := ?_) (by rfl) rfl ?_ ?_
          rotate_left
          · go_simp
            rfl
          refine hK.out _ _ ?_
          clear hK K
          refine done_ (by kernel_rfl) ?_
          clear c3 f3 hC2
          go_wp2
          go_roundw
          case rel =>
            have el : ((t.kids.take k).map fun t => toI (tyOf t)).length = k := by simp; omega
            have ek : ((t.kids.take (k + 1)).map fun t => toI (tyOf t)) = ((t.kids.take k).map fun t => toI (tyOf t)) ++ [toI (tyOf t.kids[k])] := by rw [List.take_succ_eq_append_getElem hlt, List.map_append, List.map_cons, List.map_nil]
            rw [el, ← ek] at hown2
            have hS := HSZ.out
            refine ⟨k + 1, _, by omega, by go_num, set_blk hB2 4 _, hown2.setLow em_IT (show w.heap.size + 1 + 1 < wl.heap.size from by omega) _, ?_⟩
            exact ((((hI.out.2.2.alloc _).drew.then hbl).alloc _).grown hg2 (fun k' e => .inr (hv2 k' e))).setCell (p := ⟨w.heap.size + 1 + 1, 4, none⟩) (.inl rfl) _
          case measure => simp [intOf]; omega
        · obtain rfl : k = t.kids.length := by omega
          obtain ⟨hO, hown, hkp⟩ := hI.out
          rw [List.take_length] at hown
          have hkB : Below w.heap.size w wr := below_kp HBL.out hkp (fun i hi => by omega)
          obtain ⟨a1', c1', rfl, lo1, row1⟩ := hown.rowIT
          have hR := hkp.heap HR.out (by omega)
          obtain ⟨z0, z1, z2, z3, z4, z5⟩ := cells6 hR
          have zf := froz_blk hR
          obtain ⟨o0, o1, o2, o3, o4, o5⟩ := cells6 hO
          have ROW1 := Lib.hid row1
          have LO1 := Lib.hid lo1
          have HBE := Lib.hid hkB
          have HKP := Lib.hid hkp
          have hs1 := HSZ.out
          have hs4 := hkp.size
          clear row1 lo1 hkB hown hR hO hkp hI
          simp only [List.length_map] at o4
          obtain ⟨ka, kc, e1, e2, e3⟩ := HVK.out
          have HE2 := Lib.hid e2
          have HE3 := Lib.hid e3
          clear e2 e3
          subst e1
          go_wp2
          refine bodyPost_ret (v := .agg #[.int .i64 6, .string ⟨#[]⟩, .string ⟨#[]⟩, .slice ka t.keys.length kc, .slice a1' t.kids.length c1', .slice none 0 0]) (by simp [results, Tryz.results30, go_sem, z0, z1, z2, z3, z4, z5]) rfl ?_
          rw [HT.out]
          have hk6 : ∀ (x0 x1 x2 x3 x4 x5 : Value) k, w.heap.size + 3 ≤ k → ((((((wr.setCell ⟨w.heap.size + 1, 0, none⟩ x0).setCell ⟨w.heap.size + 1, 1, none⟩ x1).setCell ⟨w.heap.size + 1, 2, none⟩ x2).setCell ⟨w.heap.size + 1, 3, none⟩ x3).setCell ⟨w.heap.size + 1, 4, none⟩ x4).setCell ⟨w.heap.size + 1, 5, none⟩ x5).heap[k]? = wr.heap[k]? := fun x0 x1 x2 x3 x4 x5 k h1 => by
            repeat rw [Below.heap_setCell _ _ _ k (show k ≠ w.heap.size + 1 from by omega)]
          refine ⟨_, _, _, _, _, _, _, _, _, rfl, ?_, ?_⟩
          · refine mit_mk (by simp) (by simp) rfl (by simpa using HE2.out) (by simpa using LO1.out) len0 (HE3.out.mono (fr_deep (lo_m0 _) (by omega) (fun k e => by cases e) (fun k h1 h2 _ => ?_) (.inl rfl))) ?_ (rowIT_nil _ _)
            · rw [hk6 _ _ _ _ _ _ k h1]
              exact HKP.out.block k h2 (by omega)
            · rw [List.map_map]
              exact ROW1.out.mono (fr_lower (lo_m0 _) (by omega) (fun k h1 h2 => hk6 _ _ _ _ _ _ k (by omega)))
          · have hle : w.heap.size ≤ w.heap.size + 1 := by omega
            exact (((((HBE.out.setCell hle _).setCell hle _).setCell hle _).setCell hle _).setCell hle _).setCell hle _

theorem tp_n (n : Nat) : ∀ t, SizeOf.sizeOf t < n → TpOk t := by
  induction n with
  | zero => intro t h; exact absurd h (Nat.not_lt_zero _)
  | succ n ih =>
    intro t hn m kd tx ak nk ck a1 n1 c1 w hp hw hv hm
    obtain ⟨rfl, rfl, rfl, rfl, lk, l1, rk, r1⟩ := hv.open
    have IH := Lib.hid (fun k (hk : k ∈ t.kids) => ih k (by have := Vl.lt_kid' (t := t) hk; omega))
    have hk := hp.kind
    have : t.kind = 0 ∨ t.kind = 1 ∨ t.kind = 2 ∨ t.kind = 3 ∨ t.kind = 4 ∨ t.kind = 5 ∨ t.kind = 6 := by omega
    rcases this with h | h | h | h | h | h | h
    · have := pv_flat hp (by omega); rw [tyOf_eq, if_pos h]; rw [h]; exact tp_0 w this.2
    · have := pv_flat hp (by omega); rw [tyOf_eq, if_neg (by omega), if_pos (.inl h)]; rw [h]; exact tp_1 w this.2
    · have := pv_flat hp (by omega); rw [tyOf_eq, if_neg (by omega), if_pos (.inr h)]; rw [h]; exact tp_2 w this.2
    · have := pv_flat hp (by omega); rw [tyOf_eq, if_neg (by omega), if_neg (by omega), if_pos h]; rw [h]; exact tp_3 w this.2
    · have := pv_flat hp (by omega); rw [tyOf_eq, if_neg (by omega), if_neg (by omega), if_neg (by omega), if_pos h]; rw [h]; exact tp_4 w this.2
    · rw [h]; exact tp_5 w IH h hp hw r1 l1 hm
    · rw [h]; exact tp_6 w IH h hp hw rk lk r1 l1 hm
theorem typeOf_any (t : Vl) : TpOk t := tp_n _ t (Nat.lt_succ_self _)
end Go.Proofs.YtaglgokeejjagaaGreat
