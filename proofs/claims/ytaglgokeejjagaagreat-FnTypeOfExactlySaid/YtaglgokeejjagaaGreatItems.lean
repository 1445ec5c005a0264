/- 'items': the items of an array against those of a type. -/
import Derived.Test.YtaglgokeejjagaaGreatOwn
import Derived.Test.YtaglgokeejjagaaGreatPureIn
import Derived.Test.YtaglgokeejjagaaGreatStat
import Derived.BigQuiet
namespace Go.Proofs.YtaglgokeejjagaaGreat
set_option linter.unusedVariables false
set_option linter.unusedSimpArgs false
open Go.RowKit Go.Sort

def InC (t : ST) (v : Vl) (w : World) (e : Ending) (w' : World) : Prop := e = .returned (.bool (inT t v)) ∧ Gr w w'
/-- 'In' answers for this type. -/
def InOk (t : ST) : Prop := ∀ (v : Vl) (m : Mem) (kv : Int) (tx : ByteArray) (akv : Option Addr) (nkv ckv : Nat) (a1v : Option Addr) (n1v c1v : Nat) (kd : Int) (ak : Option Addr) (nk ck : Nat) (a1 : Option Addr) (n1 c1 : Nat) (a2 : Option Addr) (n2 c2 : Nat) (w : World),
  Wt t → Wv v → MV m (vlCells kv tx akv nkv ckv a1v n1v c1v) v → MST m (stCells kd ak nk ck a1 n1 c1 a2 n2 c2) t → MLe m w.cell? →
  Calls Tryz.prog 15 #[.agg #[.int .i64 kv, .string tx, .slice akv nkv ckv, .slice a1v n1v c1v], .agg #[.int .i64 kd, .slice ak nk ck, .slice a1 n1 c1, .slice a2 n2 c2]] w (InC t v w)

def ItC (P : Prop) (w : World) (e : Ending) (w' : World) : Prop := ∃ b, e = .returned (.bool b) ∧ (b = true ↔ P) ∧ Gr w w'
theorem ItC.yes {P : Prop} {w w' : World} (h : P) (g : Gr w w') : ItC P w (.returned (.bool true)) w' := ⟨true, rfl, by simp [h], g⟩
theorem ItC.no {P : Prop} {w w' : World} (h : ¬ P) (g : Gr w w') : ItC P w (.returned (.bool false)) w' := ⟨false, rfl, by simp [h], g⟩

set_option maxHeartbeats 4000000 in
set_option maxRecDepth 100000 in
theorem items_any {t : ST} {v : Vl} (IH : Hid (∀ d, SizeOf.sizeOf d < SizeOf.sizeOf t → InOk d)) {m : Mem} {kv : Int} {tx : ByteArray} {akv : Option Addr} {nkv ckv : Nat} {a1v : Option Addr} {n1v c1v : Nat} {kd : Int} {ak : Option Addr} {nk ck : Nat} {a1 : Option Addr} {n1 c1 : Nat} {a2 : Option Addr} {n2 c2 : Nat} {w : World}
    (hwt : Wt t) (hwv : Wv v) (hv : MV m (vlCells kv tx akv nkv ckv a1v n1v c1v) v) (ht : MST m (stCells kd ak nk ck a1 n1 c1 a2 n2 c2) t) (hm : MLe m w.cell?) :
    Calls Tryz.prog 40 #[.agg #[.int .i64 kv, .string tx, .slice akv nkv ckv, .slice a1v n1v c1v], .agg #[.int .i64 kd, .slice ak nk ck, .slice a1 n1 c1, .slice a2 n2 c2]] w (ItC (ItemsP t v) w) := by
  obtain ⟨rfl, rfl, rfl, rfl, ⟨lv1, lv2⟩, ⟨lv3, lv4⟩, rkv, r1v⟩ := hv.open
  obtain ⟨rfl, rfl, rfl, rfl, ⟨lk1, lk2⟩, ⟨l11, l12⟩, ⟨l21, l22⟩, rk, r1, r2⟩ := ht.open
  have H1V := Lib.hid r1v
  have H1 := Lib.hid r1
  have H2 := Lib.hid r2
  have HM := Lib.hid hm
  have HT := Lib.hid hwt.out
  have HV := Lib.hid hwv.out
  clear rkv r1v rk r1 r2 hv ht hm hwt hwv
  by_cases h1 : v.kids.length < t.kids.length
  · go_enter Tryz.func40, Tryz.ntmps40
    go_wp2
    go_ret
    exact ItC.no (fun h => by have := h.1; omega) (((Gr.refl _).alloc _).alloc _)
  · have h1' : t.kids.length ≤ v.kids.length := by omega
    by_cases h2 : t.more.length = 0
    · by_cases h3 : t.kids.length < v.kids.length
      · go_enter Tryz.func40, Tryz.ntmps40
        go_wp2
        go_ret
        exact ItC.no (fun h => by have := h.2.1 h2; omega) (((Gr.refl _).alloc _).alloc _)
      · have h3' : v.kids.length ≤ t.kids.length := by omega
        have d2 : ((t.more.length : Int) == 0) = true := by rw [beq_iff_eq]; omega
        have d3 : (t.more.length == 0) = true := by rw [beq_iff_eq]; omega
        have hm0 : t.more.length ≤ 0 := by omega
        clear h2
        go_enter Tryz.func40, Tryz.ntmps40
        go_wp2
        go_loopw [5, 6, 32] (fun _ _ i wr => ∃ k : Nat, k ≤ v.kids.length ∧ i = .int .i64 k ∧ Hid (
          wr.heap[w.heap.size]? = some (.cells #[.int .i64 v.kind, .string v.text, .slice akv v.keys.length ckv, .slice a1v v.kids.length c1v] 36 (0, 0)) ∧
          wr.heap[w.heap.size + 1]? = some (.cells #[.int .i64 t.kind, .slice ak t.keys.length ck, .slice a1 t.kids.length c1, .slice a2 t.more.length c2] 42 (0, 0)) ∧ Gr w wr ∧
          (∀ i (h : i < v.kids.length), i < k → (∀ (h2 : i < t.kids.length), InP t.kids[i] v.kids[i]) ∧ (t.kids.length ≤ i → ∀ d, t.more[0]? = some d → InP d v.kids[i])))) (fun _ _ i _ => v.kids.length - (intOf i).toNat)
        case atStart => exact ⟨0, Nat.zero_le _, rfl, al_old (al_new rfl), al_new (by simp), ((Gr.refl _).alloc _).alloc _, fun j _ h => absurd h (Nat.not_lt_zero _)⟩
        case round =>
          obtain ⟨k, hkn, rfl, hI⟩ := hrel
          by_cases hlt : k < v.kids.length
          · have hm1 := HM.out.trans hI.out.2.2.1.mle
            obtain ⟨b, off, kd', tx', ak', nk, ck', a1', n1, c1', rfl, e0, e1, e2, e3, hkv⟩ := H1V.out.at hlt
            replace e0 := hm1 _ _ e0
            replace e1 := hm1 _ _ e1
            replace e2 := hm1 _ _ e2
            replace e3 := hm1 _ _ e3
            have HKV := Lib.hid hkv
            have HM1 := Lib.hid hm1
            have HVk := Lib.hid (HV.out.2 _ (List.getElem_mem hlt))
            have HGR := Lib.hid hI.out.2.2.1
            have hX := hI.out.1
            have hY := hI.out.2.1
            have hsz : w.heap.size + 1 < wr.heap.size := lt_blk hY
            clear hkv
            have hkt1 : k < t.kids.length := by omega
            have dk2 : decide ((t.kids.length : Int) ≤ (k : Int)) = false := by simp; omega
            have dk3 : decide (t.kids.length ≤ k) = false := by simp; omega
            obtain ⟨b2, off2, kd2, ak2, nk2, ck2, a12, n12, c12, a22, n22, c22, rfl, z0, z1, z2, z3, hkt⟩ := H1.out.at hkt1
            replace z0 := hm1 _ _ z0
            replace z1 := hm1 _ _ z1
            replace z2 := hm1 _ _ z2
            replace z3 := hm1 _ _ z3
            have HKT := Lib.hid hkt
            have HTk := Lib.hid (HT.out.2.2.1 _ (List.getElem_mem hkt1))
            have HIN := Lib.hid (IH.out t.kids[k] (ST.lt_kid' (List.getElem_mem hkt1)))
            clear hkt hm1
            go_wp2
            have hc := al_new (w := wr) (o := .cells #[.int .i64 kd', .string tx', .slice ak' nk ck', .slice a1' n1 c1'] 36) rfl
            have hX1 := al_old (o := .cells #[.int .i64 kd', .string tx', .slice ak' nk ck', .slice a1' n1 c1'] 36) hX
            have hY1 := al_old (o := .cells #[.int .i64 kd', .string tx', .slice ak' nk ck', .slice a1' n1 c1'] 36) hY
            have hM2 := mle_alloc HM1.out (.cells #[.int .i64 kd', .string tx', .slice ak' nk ck', .slice a1' n1 c1'] 36)
            have hG2 := HGR.out.alloc (.cells #[.int .i64 kd', .string tx', .slice ak' nk ck', .slice a1' n1 c1'] 36)
            have hz0 := ((Gr.refl wr).alloc (.cells #[.int .i64 kd', .string tx', .slice ak' nk ck', .slice a1' n1 c1'] 36)).cell z0
            have hz1 := ((Gr.refl wr).alloc (.cells #[.int .i64 kd', .string tx', .slice ak' nk ck', .slice a1' n1 c1'] 36)).cell z1
            have hz2 := ((Gr.refl wr).alloc (.cells #[.int .i64 kd', .string tx', .slice ak' nk ck', .slice a1' n1 c1'] 36)).cell z2
            have hz3 := ((Gr.refl wr).alloc (.cells #[.int .i64 kd', .string tx', .slice ak' nk ck', .slice a1' n1 c1'] 36)).cell z3
            generalize (wr.alloc (.cells #[.int .i64 kd', .string tx', .slice ak' nk ck', .slice a1' n1 c1'] 36)) = W at hc hX1 hY1 hM2 hG2 hz0 hz1 hz2 hz3 ⊢
            clear z0 z1 z2 z3
            have d0 := fun n os => (gr_grow W n os).cell (cell_blk hc 0 rfl)
            have d1 := fun n os => (gr_grow W n os).cell (cell_blk hc 1 rfl)
            have d2 := fun n os => (gr_grow W n os).cell (cell_blk hc 2 rfl)
            have d3 := fun n os => (gr_grow W n os).cell (cell_blk hc 3 rfl)
            have x3 := fun n os => (gr_grow W n os).cell (cell_blk hX1 3 rfl)
            have y2 := fun n os => (gr_grow W n os).cell (cell_blk hY1 2 rfl)
            have y3 := fun n os => (gr_grow W n os).cell (cell_blk hY1 3 rfl)
            have z0 := fun n os => (gr_grow W n os).cell hz0
            have z1 := fun n os => (gr_grow W n os).cell hz1
            have z2 := fun n os => (gr_grow W n os).cell hz2
            have z3 := fun n os => (gr_grow W n os).cell hz3
            have hmix : Tryz.prog.follows .mixedOrders = true := by kernel_rfl
            have HXX := Lib.hid hX1
            have HYY := Lib.hid hY1
            have HM2 := Lib.hid hM2
            have HG2 := Lib.hid hG2
            clear hX1 hY1 hM2 hG2 hz0 hz1 hz2 hz3
            clear hc hX hY e0 e1 e2 e3
            by_cases hpk : InP t.kids[k] v.kids[k]
            · have hp := inT_true hpk
              have HCALL := Lib.hid (fun (W' : World) (h' : MLe m W'.cell?) => show Calls Tryz.prog 15 #[.agg #[.int .i64 kd', .string tx', .slice ak' nk ck', .slice a1' n1 c1'], .agg #[.int .i64 kd2, .slice ak2 nk2 ck2, .slice a12 n12 c12, .slice a22 n22 c22]] W' (fun e w' => e = .returned (.bool true) ∧ Gr W' w') from by have h9 := HIN.out _ m _ _ _ _ _ _ _ _ _ _ _ _ _ _ _ _ _ _ W' HTk.out HVk.out HKV.out HKT.out h'; unfold InC at h9; rw [hp] at h9; exact h9)
              clear hp
              refine wp_region_quiet_grown hmix (by kernel_rfl) ?_
              repeat (go_big_quiet_step ((go_at_call 15; with_reducible exact quiet_gr (v := .bool true) (HCALL.out _ (HM2.out.trans (gr_grow _ _ _).mle)))))
              refine wpQuiet_nil ?_
              intro _ hw'
              obtain ⟨⟨nq, osq⟩, hw''⟩ := hw'
              subst hw''
              clear d0 d1 d2 d3 x3 y2 y3 z0 z1 z2 z3
              go_wp2
              go_roundw
              case rel =>
                refine ⟨k + 1, by omega, by go_num, bl_heap (gr_grow _ _ _).below HXX.out, bl_heap (gr_grow _ _ _).below HYY.out, HG2.out.trans (gr_grow _ _ _), ?_⟩
                intro j hj hjk
                by_cases e : j = k
                · subst e; exact ⟨fun h2 => hpk, fun h2 => by omega⟩
                · exact hI.out.2.2.2 j hj (by omega)
              case measure => simp [intOf]; omega

            · have hp := inT_false hpk
              have HCALL := Lib.hid (fun (W' : World) (h' : MLe m W'.cell?) => show Calls Tryz.prog 15 #[.agg #[.int .i64 kd', .string tx', .slice ak' nk ck', .slice a1' n1 c1'], .agg #[.int .i64 kd2, .slice ak2 nk2 ck2, .slice a12 n12 c12, .slice a22 n22 c22]] W' (fun e w' => e = .returned (.bool false) ∧ Gr W' w') from by have h9 := HIN.out _ m _ _ _ _ _ _ _ _ _ _ _ _ _ _ _ _ _ _ W' HTk.out HVk.out HKV.out HKT.out h'; unfold InC at h9; rw [hp] at h9; exact h9)
              clear hp
              refine wp_region_quiet_grown hmix (by kernel_rfl) ?_
              repeat (go_big_quiet_step ((go_at_call 15; with_reducible exact quiet_gr (v := .bool false) (HCALL.out _ (HM2.out.trans (gr_grow _ _ _).mle)))))
              refine wpQuiet_nil ?_
              intro _ hw'
              obtain ⟨⟨nq, osq⟩, hw''⟩ := hw'
              subst hw''
              clear d0 d1 d2 d3 x3 y2 y3 z0 z1 z2 z3
              go_wp2
              go_ret
              exact ItC.no (fun h => hpk (h.2.2.1 k hlt hkt1)) (HG2.out.trans (gr_grow _ _ _))

          · go_wp2
            go_ret
            exact ItC.yes ⟨h1', fun _ => h3', fun i h h2 => (hI.out.2.2.2 i h (by omega)).1 h2, fun i h h2 => (hI.out.2.2.2 i h (by omega)).2 h2⟩ hI.out.2.2.1

    · have h0m : 0 < t.more.length := by omega
      have d2 : ((t.more.length : Int) == 0) = false := by rw [beq_eq_false_iff_ne]; omega
      clear h2
      go_enter Tryz.func40, Tryz.ntmps40
      go_wp2
      go_loopw [5, 6, 32] (fun _ _ i wr => ∃ k : Nat, k ≤ v.kids.length ∧ i = .int .i64 k ∧ Hid (
        wr.heap[w.heap.size]? = some (.cells #[.int .i64 v.kind, .string v.text, .slice akv v.keys.length ckv, .slice a1v v.kids.length c1v] 36 (0, 0)) ∧
        wr.heap[w.heap.size + 1]? = some (.cells #[.int .i64 t.kind, .slice ak t.keys.length ck, .slice a1 t.kids.length c1, .slice a2 t.more.length c2] 42 (0, 0)) ∧ Gr w wr ∧
        (∀ i (h : i < v.kids.length), i < k → (∀ (h2 : i < t.kids.length), InP t.kids[i] v.kids[i]) ∧ (t.kids.length ≤ i → ∀ d, t.more[0]? = some d → InP d v.kids[i])))) (fun _ _ i _ => v.kids.length - (intOf i).toNat)
      case atStart => exact ⟨0, Nat.zero_le _, rfl, al_old (al_new rfl), al_new (by simp), ((Gr.refl _).alloc _).alloc _, fun j _ h => absurd h (Nat.not_lt_zero _)⟩
      case round =>
        obtain ⟨k, hkn, rfl, hI⟩ := hrel
        by_cases hlt : k < v.kids.length
        · have hm1 := HM.out.trans hI.out.2.2.1.mle
          obtain ⟨b, off, kd', tx', ak', nk, ck', a1', n1, c1', rfl, e0, e1, e2, e3, hkv⟩ := H1V.out.at hlt
          replace e0 := hm1 _ _ e0
          replace e1 := hm1 _ _ e1
          replace e2 := hm1 _ _ e2
          replace e3 := hm1 _ _ e3
          have HKV := Lib.hid hkv
          have HM1 := Lib.hid hm1
          have HVk := Lib.hid (HV.out.2 _ (List.getElem_mem hlt))
          have HGR := Lib.hid hI.out.2.2.1
          have hX := hI.out.1
          have hY := hI.out.2.1
          have hsz : w.heap.size + 1 < wr.heap.size := lt_blk hY
          clear hkv
          by_cases hkt1 : k < t.kids.length
          · have hkt1 : k < t.kids.length := by omega
            have dk2 : decide ((t.kids.length : Int) ≤ (k : Int)) = false := by simp; omega
            have dk3 : decide (t.kids.length ≤ k) = false := by simp; omega
            obtain ⟨b2, off2, kd2, ak2, nk2, ck2, a12, n12, c12, a22, n22, c22, rfl, z0, z1, z2, z3, hkt⟩ := H1.out.at hkt1
            replace z0 := hm1 _ _ z0
            replace z1 := hm1 _ _ z1
            replace z2 := hm1 _ _ z2
            replace z3 := hm1 _ _ z3
            have HKT := Lib.hid hkt
            have HTk := Lib.hid (HT.out.2.2.1 _ (List.getElem_mem hkt1))
            have HIN := Lib.hid (IH.out t.kids[k] (ST.lt_kid' (List.getElem_mem hkt1)))
            clear hkt hm1
            go_wp2
            have hc := al_new (w := wr) (o := .cells #[.int .i64 kd', .string tx', .slice ak' nk ck', .slice a1' n1 c1'] 36) rfl
            have hX1 := al_old (o := .cells #[.int .i64 kd', .string tx', .slice ak' nk ck', .slice a1' n1 c1'] 36) hX
            have hY1 := al_old (o := .cells #[.int .i64 kd', .string tx', .slice ak' nk ck', .slice a1' n1 c1'] 36) hY
            have hM2 := mle_alloc HM1.out (.cells #[.int .i64 kd', .string tx', .slice ak' nk ck', .slice a1' n1 c1'] 36)
            have hG2 := HGR.out.alloc (.cells #[.int .i64 kd', .string tx', .slice ak' nk ck', .slice a1' n1 c1'] 36)
            have hz0 := ((Gr.refl wr).alloc (.cells #[.int .i64 kd', .string tx', .slice ak' nk ck', .slice a1' n1 c1'] 36)).cell z0
            have hz1 := ((Gr.refl wr).alloc (.cells #[.int .i64 kd', .string tx', .slice ak' nk ck', .slice a1' n1 c1'] 36)).cell z1
            have hz2 := ((Gr.refl wr).alloc (.cells #[.int .i64 kd', .string tx', .slice ak' nk ck', .slice a1' n1 c1'] 36)).cell z2
            have hz3 := ((Gr.refl wr).alloc (.cells #[.int .i64 kd', .string tx', .slice ak' nk ck', .slice a1' n1 c1'] 36)).cell z3
            generalize (wr.alloc (.cells #[.int .i64 kd', .string tx', .slice ak' nk ck', .slice a1' n1 c1'] 36)) = W at hc hX1 hY1 hM2 hG2 hz0 hz1 hz2 hz3 ⊢
            clear z0 z1 z2 z3
            have d0 := fun n os => (gr_grow W n os).cell (cell_blk hc 0 rfl)
            have d1 := fun n os => (gr_grow W n os).cell (cell_blk hc 1 rfl)
            have d2 := fun n os => (gr_grow W n os).cell (cell_blk hc 2 rfl)
            have d3 := fun n os => (gr_grow W n os).cell (cell_blk hc 3 rfl)
            have x3 := fun n os => (gr_grow W n os).cell (cell_blk hX1 3 rfl)
            have y2 := fun n os => (gr_grow W n os).cell (cell_blk hY1 2 rfl)
            have y3 := fun n os => (gr_grow W n os).cell (cell_blk hY1 3 rfl)
            have z0 := fun n os => (gr_grow W n os).cell hz0
            have z1 := fun n os => (gr_grow W n os).cell hz1
            have z2 := fun n os => (gr_grow W n os).cell hz2
            have z3 := fun n os => (gr_grow W n os).cell hz3
            have hmix : Tryz.prog.follows .mixedOrders = true := by kernel_rfl
            have HXX := Lib.hid hX1
            have HYY := Lib.hid hY1
            have HM2 := Lib.hid hM2
            have HG2 := Lib.hid hG2
            clear hX1 hY1 hM2 hG2 hz0 hz1 hz2 hz3
            clear hc hX hY e0 e1 e2 e3
            by_cases hpk : InP t.kids[k] v.kids[k]
            · have hp := inT_true hpk
              have HCALL := Lib.hid (fun (W' : World) (h' : MLe m W'.cell?) => show Calls Tryz.prog 15 #[.agg #[.int .i64 kd', .string tx', .slice ak' nk ck', .slice a1' n1 c1'], .agg #[.int .i64 kd2, .slice ak2 nk2 ck2, .slice a12 n12 c12, .slice a22 n22 c22]] W' (fun e w' => e = .returned (.bool true) ∧ Gr W' w') from by have h9 := HIN.out _ m _ _ _ _ _ _ _ _ _ _ _ _ _ _ _ _ _ _ W' HTk.out HVk.out HKV.out HKT.out h'; unfold InC at h9; rw [hp] at h9; exact h9)
              clear hp
              refine wp_region_quiet_grown hmix (by kernel_rfl) ?_
              repeat (go_big_quiet_step ((go_at_call 15; with_reducible exact quiet_gr (v := .bool true) (HCALL.out _ (HM2.out.trans (gr_grow _ _ _).mle)))))
              refine wpQuiet_nil ?_
              intro _ hw'
              obtain ⟨⟨nq, osq⟩, hw''⟩ := hw'
              subst hw''
              clear d0 d1 d2 d3 x3 y2 y3 z0 z1 z2 z3
              go_wp2
              go_roundw
              case rel =>
                refine ⟨k + 1, by omega, by go_num, bl_heap (gr_grow _ _ _).below HXX.out, bl_heap (gr_grow _ _ _).below HYY.out, HG2.out.trans (gr_grow _ _ _), ?_⟩
                intro j hj hjk
                by_cases e : j = k
                · subst e; exact ⟨fun h2 => hpk, fun h2 => by omega⟩
                · exact hI.out.2.2.2 j hj (by omega)
              case measure => simp [intOf]; omega

            · have hp := inT_false hpk
              have HCALL := Lib.hid (fun (W' : World) (h' : MLe m W'.cell?) => show Calls Tryz.prog 15 #[.agg #[.int .i64 kd', .string tx', .slice ak' nk ck', .slice a1' n1 c1'], .agg #[.int .i64 kd2, .slice ak2 nk2 ck2, .slice a12 n12 c12, .slice a22 n22 c22]] W' (fun e w' => e = .returned (.bool false) ∧ Gr W' w') from by have h9 := HIN.out _ m _ _ _ _ _ _ _ _ _ _ _ _ _ _ _ _ _ _ W' HTk.out HVk.out HKV.out HKT.out h'; unfold InC at h9; rw [hp] at h9; exact h9)
              clear hp
              refine wp_region_quiet_grown hmix (by kernel_rfl) ?_
              repeat (go_big_quiet_step ((go_at_call 15; with_reducible exact quiet_gr (v := .bool false) (HCALL.out _ (HM2.out.trans (gr_grow _ _ _).mle)))))
              refine wpQuiet_nil ?_
              intro _ hw'
              obtain ⟨⟨nq, osq⟩, hw''⟩ := hw'
              subst hw''
              clear d0 d1 d2 d3 x3 y2 y3 z0 z1 z2 z3
              go_wp2
              go_ret
              exact ItC.no (fun h => hpk (h.2.2.1 k hlt hkt1)) (HG2.out.trans (gr_grow _ _ _))

          · have hk0 : t.kids.length ≤ k := by omega
            have dk : decide (k < t.kids.length) = false := by simp; omega
            have dk2 : decide (t.kids.length ≤ k) = true := by simp; omega
            have dk3 : decide ((k : Int) < (t.kids.length : Int)) = false := by simp; omega
            have dk4 : decide ((t.kids.length : Int) ≤ (k : Int)) = true := by simp; omega
            obtain ⟨b2, off2, kd2, ak2, nk2, ck2, a12, n12, c12, a22, n22, c22, rfl, z0, z1, z2, z3, hkt⟩ := H2.out.at h0m
            simp only [Nat.zero_mul, Nat.add_zero] at z0 z1 z2 z3
            replace z0 := hm1 _ _ z0
            replace z1 := hm1 _ _ z1
            replace z2 := hm1 _ _ z2
            replace z3 := hm1 _ _ z3
            have HKT := Lib.hid hkt
            have HTk := Lib.hid (HT.out.2.2.2 _ (List.getElem_mem h0m))
            have HIN := Lib.hid (IH.out t.more[0] (ST.lt_more' (List.getElem_mem h0m)))
            clear hkt hm1
            go_wp2
            have hc := al_new (w := wr) (o := .cells #[.int .i64 kd', .string tx', .slice ak' nk ck', .slice a1' n1 c1'] 36) rfl
            have hX1 := al_old (o := .cells #[.int .i64 kd', .string tx', .slice ak' nk ck', .slice a1' n1 c1'] 36) hX
            have hY1 := al_old (o := .cells #[.int .i64 kd', .string tx', .slice ak' nk ck', .slice a1' n1 c1'] 36) hY
            have hM2 := mle_alloc HM1.out (.cells #[.int .i64 kd', .string tx', .slice ak' nk ck', .slice a1' n1 c1'] 36)
            have hG2 := HGR.out.alloc (.cells #[.int .i64 kd', .string tx', .slice ak' nk ck', .slice a1' n1 c1'] 36)
            have hz0 := ((Gr.refl wr).alloc (.cells #[.int .i64 kd', .string tx', .slice ak' nk ck', .slice a1' n1 c1'] 36)).cell z0
            have hz1 := ((Gr.refl wr).alloc (.cells #[.int .i64 kd', .string tx', .slice ak' nk ck', .slice a1' n1 c1'] 36)).cell z1
            have hz2 := ((Gr.refl wr).alloc (.cells #[.int .i64 kd', .string tx', .slice ak' nk ck', .slice a1' n1 c1'] 36)).cell z2
            have hz3 := ((Gr.refl wr).alloc (.cells #[.int .i64 kd', .string tx', .slice ak' nk ck', .slice a1' n1 c1'] 36)).cell z3
            generalize (wr.alloc (.cells #[.int .i64 kd', .string tx', .slice ak' nk ck', .slice a1' n1 c1'] 36)) = W at hc hX1 hY1 hM2 hG2 hz0 hz1 hz2 hz3 ⊢
            clear z0 z1 z2 z3
            have d0 := fun n os => (gr_grow W n os).cell (cell_blk hc 0 rfl)
            have d1 := fun n os => (gr_grow W n os).cell (cell_blk hc 1 rfl)
            have d2 := fun n os => (gr_grow W n os).cell (cell_blk hc 2 rfl)
            have d3 := fun n os => (gr_grow W n os).cell (cell_blk hc 3 rfl)
            have x3 := fun n os => (gr_grow W n os).cell (cell_blk hX1 3 rfl)
            have y2 := fun n os => (gr_grow W n os).cell (cell_blk hY1 2 rfl)
            have y3 := fun n os => (gr_grow W n os).cell (cell_blk hY1 3 rfl)
            have z0 := fun n os => (gr_grow W n os).cell hz0
            have z1 := fun n os => (gr_grow W n os).cell hz1
            have z2 := fun n os => (gr_grow W n os).cell hz2
            have z3 := fun n os => (gr_grow W n os).cell hz3
            have hmix : Tryz.prog.follows .mixedOrders = true := by kernel_rfl
            have HXX := Lib.hid hX1
            have HYY := Lib.hid hY1
            have HM2 := Lib.hid hM2
            have HG2 := Lib.hid hG2
            clear hX1 hY1 hM2 hG2 hz0 hz1 hz2 hz3
            clear hc hX hY e0 e1 e2 e3
            by_cases hpk : InP t.more[0] v.kids[k]
            · have hp := inT_true hpk
              have HCALL := Lib.hid (fun (W' : World) (h' : MLe m W'.cell?) => show Calls Tryz.prog 15 #[.agg #[.int .i64 kd', .string tx', .slice ak' nk ck', .slice a1' n1 c1'], .agg #[.int .i64 kd2, .slice ak2 nk2 ck2, .slice a12 n12 c12, .slice a22 n22 c22]] W' (fun e w' => e = .returned (.bool true) ∧ Gr W' w') from by have h9 := HIN.out _ m _ _ _ _ _ _ _ _ _ _ _ _ _ _ _ _ _ _ W' HTk.out HVk.out HKV.out HKT.out h'; unfold InC at h9; rw [hp] at h9; exact h9)
              clear hp
              refine wp_region_quiet_grown hmix (by kernel_rfl) ?_
              repeat (go_big_quiet_step ((go_at_call 15; with_reducible exact quiet_gr (v := .bool true) (HCALL.out _ (HM2.out.trans (gr_grow _ _ _).mle)))))
              refine wpQuiet_nil ?_
              intro _ hw'
              obtain ⟨⟨nq, osq⟩, hw''⟩ := hw'
              subst hw''
              clear d0 d1 d2 d3 x3 y2 y3 z0 z1 z2 z3
              go_wp2
              go_roundw
              case rel =>
                refine ⟨k + 1, by omega, by go_num, bl_heap (gr_grow _ _ _).below HXX.out, bl_heap (gr_grow _ _ _).below HYY.out, HG2.out.trans (gr_grow _ _ _), ?_⟩
                intro j hj hjk
                by_cases e : j = k
                · subst e; exact ⟨fun h2 => by omega, fun h2 d hd => by rw [List.getElem?_eq_getElem h0m] at hd; cases hd; exact hpk⟩
                · exact hI.out.2.2.2 j hj (by omega)
              case measure => simp [intOf]; omega

            · have hp := inT_false hpk
              have HCALL := Lib.hid (fun (W' : World) (h' : MLe m W'.cell?) => show Calls Tryz.prog 15 #[.agg #[.int .i64 kd', .string tx', .slice ak' nk ck', .slice a1' n1 c1'], .agg #[.int .i64 kd2, .slice ak2 nk2 ck2, .slice a12 n12 c12, .slice a22 n22 c22]] W' (fun e w' => e = .returned (.bool false) ∧ Gr W' w') from by have h9 := HIN.out _ m _ _ _ _ _ _ _ _ _ _ _ _ _ _ _ _ _ _ W' HTk.out HVk.out HKV.out HKT.out h'; unfold InC at h9; rw [hp] at h9; exact h9)
              clear hp
              refine wp_region_quiet_grown hmix (by kernel_rfl) ?_
              repeat (go_big_quiet_step ((go_at_call 15; with_reducible exact quiet_gr (v := .bool false) (HCALL.out _ (HM2.out.trans (gr_grow _ _ _).mle)))))
              refine wpQuiet_nil ?_
              intro _ hw'
              obtain ⟨⟨nq, osq⟩, hw''⟩ := hw'
              subst hw''
              clear d0 d1 d2 d3 x3 y2 y3 z0 z1 z2 z3
              go_wp2
              go_ret
              exact ItC.no (fun h => hpk (h.2.2.2 k hlt (by omega) _ (List.getElem?_eq_getElem h0m))) (HG2.out.trans (gr_grow _ _ _))

        · go_wp2
          go_ret
          exact ItC.yes ⟨h1', fun h => by omega, fun i h h2 => (hI.out.2.2.2 i h (by omega)).1 h2, fun i h h2 => (hI.out.2.2.2 i h (by omega)).2 h2⟩ hI.out.2.2.1

end Go.Proofs.YtaglgokeejjagaaGreat
