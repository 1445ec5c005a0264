/- 'Deep' and 'Dynamic': which static properties two object types have. -/
import Derived.Test.YtaglgokeejjagaaGreatOwn
import Derived.Test.YtaglgokeejjagaaGreatPureIn
import Derived.BigQuiet
/- 'static': the place of a static property. -/
namespace Go.Proofs.YtaglgokeejjagaaGreat
set_option linter.unusedVariables false
set_option linter.unusedSimpArgs false
open Go.RowKit Go.Sort

def StSome (k : ST) (m : Mem) (w : World) (e : Ending) (w' : World) : Prop := ∃ kd ak nk ck a1 n1 c1 a2 n2 c2, e = .returned (.tuple #[.agg #[.int .i64 kd, .slice ak nk ck, .slice a1 n1 c1, .slice a2 n2 c2], .bool true]) ∧ MST m (stCells kd ak nk ck a1 n1 c1 a2 n2 c2) k ∧ Gr w w'
def StNone (w : World) (e : Ending) (w' : World) : Prop := e = .returned (.tuple #[.agg #[.int .i64 0, .slice none 0 0, .slice none 0 0, .slice none 0 0], .bool false]) ∧ Gr w w'

set_option maxHeartbeats 2000000 in
set_option maxRecDepth 100000 in
theorem static_some {t : ST} {m : Mem} {kd : Int} {ak a1 a2 : Option Addr} {nk ck n1 c1 n2 c2 : Nat} {key : ByteArray} {w : World} (hv : MST m (stCells kd ak nk ck a1 n1 c1 a2 n2 c2) t) (hm : MLe m w.cell?) {j : Nat} (hs : stat t.keys key = some j) (hj : j < t.kids.length) :
    Calls Tryz.prog 50 #[.agg #[.int .i64 kd, .slice ak nk ck, .slice a1 n1 c1, .slice a2 n2 c2], .string key] w (StSome t.kids[j] m w) := by
  obtain ⟨rfl, rfl, rfl, rfl, ⟨lk1, lk2⟩, ⟨l11, l12⟩, ⟨l21, l22⟩, rk, r1, _⟩ := hv.open
  have HK := Lib.hid rk
  have H1 := Lib.hid r1
  have HM := Lib.hid hm
  have HS := Lib.hid hs
  clear rk r1 hm hs hv
  go_enter Tryz.func50, Tryz.ntmps50
  go_wp2
  go_loopw [6, 7, 11] (fun _ _ i wr => ∃ k : Nat, k ≤ t.keys.length ∧ k ≤ j ∧ i = .int .i64 k ∧ Hid (
    wr.heap[w.heap.size]? = some (.cells #[.int .i64 t.kind, .slice ak t.keys.length ck, .slice a1 t.kids.length c1, .slice a2 t.more.length c2] 42 (0, 0)) ∧
    wr.heap[w.heap.size + 1]? = some (.cells #[.int .i64 0, .slice none 0 0, .slice none 0 0, .slice none 0 0] 42 (0, 0)) ∧ Gr w wr)) (fun _ _ i _ => t.keys.length - (intOf i).toNat)
  case atStart => exact ⟨0, Nat.zero_le _, Nat.zero_le _, rfl, al_old (al_new rfl), al_new (by simp), ((Gr.refl _).alloc _).alloc _⟩
  case round =>
    obtain ⟨k, hk, hkj, rfl, hI⟩ := hrel
    have hjl := stat_lt HS.out
    have hlt : k < t.keys.length := by omega
    have hm1 := HM.out.trans hI.out.2.2.mle
    obtain ⟨b, off, rfl, e0, e1⟩ := HK.out.at hlt
    replace e0 := hm1 _ _ e0
    replace e1 := hm1 _ _ e1
    obtain ⟨x0, x1, x2, x3⟩ := cells4 hI.out.1
    have hbo : w.heap.size + 1 < wr.heap.size := lt_blk hI.out.2.1
    have hb0 : w.heap.size < wr.heap.size := by omega
    by_cases hkk : k = j
    · subst hkk
      have ht := stat_at HS.out
      simp only [sKey, Bool.and_eq_true] at ht
      obtain ⟨ht1, ht2⟩ := ht
      have ht1' : t.keys[k].kind = 4 := by simpa using ht1
      obtain ⟨b', off', kd', ak', nk, ck', a1', n1, c1', a2', n2, c2', rfl, g0, g1, g2, g3, hkv⟩ := H1.out.at hj
      replace g0 := hm1 _ _ g0
      replace g1 := hm1 _ _ g1
      replace g2 := hm1 _ _ g2
      replace g3 := hm1 _ _ g3
      obtain ⟨r0, r1, r2, r3⟩ := cells4 hI.out.2.1
      have rf := froz_blk hI.out.2.1
      have hbb : b' < wr.heap.size := World.block_lt_of_cell? _ _ g0
      have HKV := Lib.hid hkv
      have HG := Lib.hid hI.out.2.2
      rw [ht1'] at e0
      clear hkv hm1 hI ht1 ht1' 
      go_wp2
      refine bodyPost_ret (v := .tuple #[.agg #[.int .i64 kd', .slice ak' nk ck', .slice a1' n1 c1', .slice a2' n2 c2'], .bool true]) (by simp [results, Tryz.results50, go_sem, r0, r1, r2, r3, hbo, rf]) rfl ⟨_, _, _, _, _, _, _, _, _, _, rfl, HKV.out, ?_⟩
      have hle : w.heap.size ≤ w.heap.size + 1 := by omega
      repeat (first | exact HG.out | refine Gr.alloc ?_ _ | refine Gr.setCell ?_ (by simp; try omega) _)
    · have ht := stat_first HS.out k (by omega)
      simp only [sKey, Bool.and_eq_false_iff] at ht
      have HI := hI
      clear hm1 hI
      by_cases h4 : (t.keys[k].kind == 4) = true
      · have ht2 : (t.keys[k].text.toList == key.toList) = false := by rcases ht with h | h; rw [h4] at h; cases h; exact h
        clear ht
        go_wp2
        go_roundw
        case rel => exact ⟨k + 1, by omega, by omega, by go_num, al_old HI.out.1, al_old HI.out.2.1, HI.out.2.2.alloc _⟩
        case measure => simp [intOf]; omega
      · have h4' : (t.keys[k].kind == 4) = false := by simpa using h4
        clear h4 ht
        go_wp2
        go_roundw
        case rel => exact ⟨k + 1, by omega, by omega, by go_num, al_old HI.out.1, al_old HI.out.2.1, HI.out.2.2.alloc _⟩
        case measure => simp [intOf]; omega

set_option maxHeartbeats 2000000 in
set_option maxRecDepth 100000 in
theorem static_none {t : ST} {m : Mem} {kd : Int} {ak a1 a2 : Option Addr} {nk ck n1 c1 n2 c2 : Nat} {key : ByteArray} {w : World} (hv : MST m (stCells kd ak nk ck a1 n1 c1 a2 n2 c2) t) (hm : MLe m w.cell?) (hs : stat t.keys key = none) :
    Calls Tryz.prog 50 #[.agg #[.int .i64 kd, .slice ak nk ck, .slice a1 n1 c1, .slice a2 n2 c2], .string key] w (StNone w) := by
  obtain ⟨rfl, rfl, rfl, rfl, ⟨lk1, lk2⟩, ⟨l11, l12⟩, ⟨l21, l22⟩, rk, r1, _⟩ := hv.open
  have HK := Lib.hid rk
  have HM := Lib.hid hm
  have HS := Lib.hid hs
  clear rk r1 hm hs hv
  go_enter Tryz.func50, Tryz.ntmps50
  go_wp2
  go_loopw [6, 7, 11] (fun _ _ i wr => ∃ k : Nat, k ≤ t.keys.length ∧ i = .int .i64 k ∧ Hid (
    wr.heap[w.heap.size]? = some (.cells #[.int .i64 t.kind, .slice ak t.keys.length ck, .slice a1 t.kids.length c1, .slice a2 t.more.length c2] 42 (0, 0)) ∧
    wr.heap[w.heap.size + 1]? = some (.cells #[.int .i64 0, .slice none 0 0, .slice none 0 0, .slice none 0 0] 42 (0, 0)) ∧ Gr w wr)) (fun _ _ i _ => t.keys.length - (intOf i).toNat)
  case atStart => exact ⟨0, Nat.zero_le _, rfl, al_old (al_new rfl), al_new (by simp), ((Gr.refl _).alloc _).alloc _⟩
  case round =>
    obtain ⟨k, hk, rfl, hI⟩ := hrel
    have hm1 := HM.out.trans hI.out.2.2.mle
    obtain ⟨x0, x1, x2, x3⟩ := cells4 hI.out.1
    have hbo : w.heap.size + 1 < wr.heap.size := lt_blk hI.out.2.1
    have hb0 : w.heap.size < wr.heap.size := by omega
    by_cases hlt : k < t.keys.length
    · obtain ⟨b, off, rfl, e0, e1⟩ := HK.out.at hlt
      replace e0 := hm1 _ _ e0
      replace e1 := hm1 _ _ e1
      have ht := stat_none HS.out k hlt
      simp only [sKey, Bool.and_eq_false_iff] at ht
      have HI := hI
      clear hm1 hI
      by_cases h4 : (t.keys[k].kind == 4) = true
      · have ht2 : (t.keys[k].text.toList == key.toList) = false := by rcases ht with h | h; rw [h4] at h; cases h; exact h
        clear ht
        go_wp2
        go_roundw
        case rel => exact ⟨k + 1, by omega, by go_num, al_old HI.out.1, al_old HI.out.2.1, HI.out.2.2.alloc _⟩
        case measure => simp [intOf]; omega
      · have h4' : (t.keys[k].kind == 4) = false := by simpa using h4
        clear h4 ht
        go_wp2
        go_roundw
        case rel => exact ⟨k + 1, by omega, by go_num, al_old HI.out.1, al_old HI.out.2.1, HI.out.2.2.alloc _⟩
        case measure => simp [intOf]; omega
    · obtain ⟨r0, r1, r2, r3⟩ := cells4 hI.out.2.1
      have rf := froz_blk hI.out.2.1
      have HG := Lib.hid hI.out.2.2
      clear hm1 hI
      go_wp2
      refine bodyPost_ret (v := .tuple #[.agg #[.int .i64 0, .slice none 0 0, .slice none 0 0, .slice none 0 0], .bool false]) (by simp [results, Tryz.results50, go_sem, r0, r1, r2, r3, hbo, rf]) rfl ⟨rfl, ?_⟩
      have hle : w.heap.size ≤ w.heap.size + 1 := by omega
      exact ((((HG.out.setCell hle _).setCell hle _).setCell hle _).setCell hle _)
end Go.Proofs.YtaglgokeejjagaaGreat
/- 'items': the items of an array against those of a type. -/
namespace Go.Proofs.YtaglgokeejjagaaGreat
set_option linter.unusedVariables false
set_option linter.unusedSimpArgs false
open Go.RowKit Go.Sort

def InC (t : ST) (v : Vl) (w : World) (e : Ending) (w' : World) : Prop := e = .returned (.bool (inT t v)) ∧ Gr w w'
/-- 'In' answers for this type. -/
def InOk (t : ST) : Prop := ∀ (v : Vl) (m : Mem) (kv : Int) (tx : ByteArray) (akv : Option Addr) (nkv ckv : Nat) (a1v : Option Addr) (n1v c1v : Nat) (kd : Int) (ak : Option Addr) (nk ck : Nat) (a1 : Option Addr) (n1 c1 : Nat) (a2 : Option Addr) (n2 c2 : Nat) (w : World),
  Wt t → Wv v → MV m (vlCells kv tx akv nkv ckv a1v n1v c1v) v → MST m (stCells kd ak nk ck a1 n1 c1 a2 n2 c2) t → MLe m w.cell? →
  Calls Tryz.prog 15 #[.agg #[.int .i64 kv, .string tx, .slice akv nkv ckv, .slice a1v n1v c1v], .agg #[.int .i64 kd, .slice ak nk ck, .slice a1 n1 c1, .slice a2 n2 c2]] w (InC t v w)

def ItC (P : Prop) (w : World) (e : Ending) (w' : World) : Prop := ∃ b, e = .returned (.bool b) ∧ (b = true ↔ P) ∧ Gr w w'
theorem ItC.yes {P : Prop} {w w' : World} (h : P) (g : Gr w w') : ItC P w (.returned (.bool true)) w' := ⟨true, rfl, by simp [h], g⟩
theorem ItC.no {P : Prop} {w w' : World} (h : ¬ P) (g : Gr w w') : ItC P w (.returned (.bool false)) w' := ⟨false, rfl, by simp [h], g⟩

set_option maxHeartbeats 4000000 in
set_option maxRecDepth 100000 in
theorem items_any {t : ST} {v : Vl} (IH : Hid (∀ d, SizeOf.sizeOf d < SizeOf.sizeOf t → InOk d)) {m : Mem} {kv : Int} {tx : ByteArray} {akv : Option Addr} {nkv ckv : Nat} {a1v : Option Addr} {n1v c1v : Nat} {kd : Int} {ak : Option Addr} {nk ck : Nat} {a1 : Option Addr} {n1 c1 : Nat} {a2 : Option Addr} {n2 c2 : Nat} {w : World}
    (hwt : Wt t) (hwv : Wv v) (hv : MV m (vlCells kv tx akv nkv ckv a1v n1v c1v) v) (ht : MST m (stCells kd ak nk ck a1 n1 c1 a2 n2 c2) t) (hm : MLe m w.cell?) :
    Calls Tryz.prog 40 #[.agg #[.int .i64 kv, .string tx, .slice akv nkv ckv, .slice a1v n1v c1v], .agg #[.int .i64 kd, .slice ak nk ck, .slice a1 n1 c1, .slice a2 n2 c2]] w (ItC (ItemsP t v) w) := by
  obtain ⟨rfl, rfl, rfl, rfl, ⟨lv1, lv2⟩, ⟨lv3, lv4⟩, rkv, r1v⟩ := hv.open
  obtain ⟨rfl, rfl, rfl, rfl, ⟨lk1, lk2⟩, ⟨l11, l12⟩, ⟨l21, l22⟩, rk, r1, r2⟩ := ht.open
  have H1V := Lib.hid r1v
  have H1 := Lib.hid r1
  have H2 := Lib.hid r2
  have HM := Lib.hid hm
  have HT := Lib.hid hwt.out
  have HV := Lib.hid hwv.out
  clear rkv r1v rk r1 r2 hv ht hm hwt hwv
  by_cases h1 : v.kids.length < t.kids.length
  · go_enter Tryz.func40, Tryz.ntmps40
    go_wp2
    go_ret
    exact ItC.no (fun h => by have := h.1; omega) (((Gr.refl _).alloc _).alloc _)
  · have h1' : t.kids.length ≤ v.kids.length := by omega
    by_cases h2 : t.more.length = 0
    · by_cases h3 : t.kids.length < v.kids.length
      · go_enter Tryz.func40, Tryz.ntmps40
        go_wp2
        go_ret
        exact ItC.no (fun h => by have := h.2.1 h2; omega) (((Gr.refl _).alloc _).alloc _)
      · have h3' : v.kids.length ≤ t.kids.length := by omega
        have d2 : ((t.more.length : Int) == 0) = true := by rw [beq_iff_eq]; omega
        have d3 : (t.more.length == 0) = true := by rw [beq_iff_eq]; omega
        have hm0 : t.more.length ≤ 0 := by omega
        clear h2
        go_enter Tryz.func40, Tryz.ntmps40
        go_wp2
        go_loopw [5, 6, 32] (fun _ _ i wr => ∃ k : Nat, k ≤ v.kids.length ∧ i = .int .i64 k ∧ Hid (
          wr.heap[w.heap.size]? = some (.cells #[.int .i64 v.kind, .string v.text, .slice akv v.keys.length ckv, .slice a1v v.kids.length c1v] 36 (0, 0)) ∧
          wr.heap[w.heap.size + 1]? = some (.cells #[.int .i64 t.kind, .slice ak t.keys.length ck, .slice a1 t.kids.length c1, .slice a2 t.more.length c2] 42 (0, 0)) ∧ Gr w wr ∧
          (∀ i (h : i < v.kids.length), i < k → (∀ (h2 : i < t.kids.length), InP t.kids[i] v.kids[i]) ∧ (t.kids.length ≤ i → ∀ d, t.more[0]? = some d → InP d v.kids[i])))) (fun _ _ i _ => v.kids.length - (intOf i).toNat)
        case atStart => exact ⟨0, Nat.zero_le _, rfl, al_old (al_new rfl), al_new (by simp), ((Gr.refl _).alloc _).alloc _, fun j _ h => absurd h (Nat.not_lt_zero _)⟩
        case round =>
          obtain ⟨k, hkn, rfl, hI⟩ := hrel
          by_cases hlt : k < v.kids.length
          · have hm1 := HM.out.trans hI.out.2.2.1.mle
            obtain ⟨b, off, kd', tx', ak', nk, ck', a1', n1, c1', rfl, e0, e1, e2, e3, hkv⟩ := H1V.out.at hlt
            replace e0 := hm1 _ _ e0
            replace e1 := hm1 _ _ e1
            replace e2 := hm1 _ _ e2
            replace e3 := hm1 _ _ e3
            have HKV := Lib.hid hkv
            have HM1 := Lib.hid hm1
            have HVk := Lib.hid (HV.out.2 _ (List.getElem_mem hlt))
            have HGR := Lib.hid hI.out.2.2.1
            have hX := hI.out.1
            have hY := hI.out.2.1
            have hsz : w.heap.size + 1 < wr.heap.size := lt_blk hY
            clear hkv
            have hkt1 : k < t.kids.length := by omega
            have dk2 : decide ((t.kids.length : Int) ≤ (k : Int)) = false := by simp; omega
            have dk3 : decide (t.kids.length ≤ k) = false := by simp; omega
            obtain ⟨b2, off2, kd2, ak2, nk2, ck2, a12, n12, c12, a22, n22, c22, rfl, z0, z1, z2, z3, hkt⟩ := H1.out.at hkt1
            replace z0 := hm1 _ _ z0
            replace z1 := hm1 _ _ z1
            replace z2 := hm1 _ _ z2
            replace z3 := hm1 _ _ z3
            have HKT := Lib.hid hkt
            have HTk := Lib.hid (HT.out.2.2.1 _ (List.getElem_mem hkt1))
            have HIN := Lib.hid (IH.out t.kids[k] (ST.lt_kid' (List.getElem_mem hkt1)))
            clear hkt hm1
            go_wp2
            have hc := al_new (w := wr) (o := .cells #[.int .i64 kd', .string tx', .slice ak' nk ck', .slice a1' n1 c1'] 36) rfl
            have hX1 := al_old (o := .cells #[.int .i64 kd', .string tx', .slice ak' nk ck', .slice a1' n1 c1'] 36) hX
            have hY1 := al_old (o := .cells #[.int .i64 kd', .string tx', .slice ak' nk ck', .slice a1' n1 c1'] 36) hY
            have hM2 := mle_alloc HM1.out (.cells #[.int .i64 kd', .string tx', .slice ak' nk ck', .slice a1' n1 c1'] 36)
            have hG2 := HGR.out.alloc (.cells #[.int .i64 kd', .string tx', .slice ak' nk ck', .slice a1' n1 c1'] 36)
            have hz0 := ((Gr.refl wr).alloc (.cells #[.int .i64 kd', .string tx', .slice ak' nk ck', .slice a1' n1 c1'] 36)).cell z0
            have hz1 := ((Gr.refl wr).alloc (.cells #[.int .i64 kd', .string tx', .slice ak' nk ck', .slice a1' n1 c1'] 36)).cell z1
            have hz2 := ((Gr.refl wr).alloc (.cells #[.int .i64 kd', .string tx', .slice ak' nk ck', .slice a1' n1 c1'] 36)).cell z2
            have hz3 := ((Gr.refl wr).alloc (.cells #[.int .i64 kd', .string tx', .slice ak' nk ck', .slice a1' n1 c1'] 36)).cell z3
            generalize (wr.alloc (.cells #[.int .i64 kd', .string tx', .slice ak' nk ck', .slice a1' n1 c1'] 36)) = W at hc hX1 hY1 hM2 hG2 hz0 hz1 hz2 hz3 ⊢
            clear z0 z1 z2 z3
            have d0 := fun n os => (gr_grow W n os).cell (cell_blk hc 0 rfl)
            have d1 := fun n os => (gr_grow W n os).cell (cell_blk hc 1 rfl)
            have d2 := fun n os => (gr_grow W n os).cell (cell_blk hc 2 rfl)
            have d3 := fun n os => (gr_grow W n os).cell (cell_blk hc 3 rfl)
            have x3 := fun n os => (gr_grow W n os).cell (cell_blk hX1 3 rfl)
            have y2 := fun n os => (gr_grow W n os).cell (cell_blk hY1 2 rfl)
            have y3 := fun n os => (gr_grow W n os).cell (cell_blk hY1 3 rfl)
            have z0 := fun n os => (gr_grow W n os).cell hz0
            have z1 := fun n os => (gr_grow W n os).cell hz1
            have z2 := fun n os => (gr_grow W n os).cell hz2
            have z3 := fun n os => (gr_grow W n os).cell hz3
            have hmix : Tryz.prog.follows .mixedOrders = true := by kernel_rfl
            have HXX := Lib.hid hX1
            have HYY := Lib.hid hY1
            have HM2 := Lib.hid hM2
            have HG2 := Lib.hid hG2
            clear hX1 hY1 hM2 hG2 hz0 hz1 hz2 hz3
            clear hc hX hY e0 e1 e2 e3
            by_cases hpk : InP t.kids[k] v.kids[k]
            · have hp := inT_true hpk
              have HCALL := Lib.hid (fun (W' : World) (h' : MLe m W'.cell?) => show Calls Tryz.prog 15 #[.agg #[.int .i64 kd', .string tx', .slice ak' nk ck', .slice a1' n1 c1'], .agg #[.int .i64 kd2, .slice ak2 nk2 ck2, .slice a12 n12 c12, .slice a22 n22 c22]] W' (fun e w' => e = .returned (.bool true) ∧ Gr W' w') from by have h9 := HIN.out _ m _ _ _ _ _ _ _ _ _ _ _ _ _ _ _ _ _ _ W' HTk.out HVk.out HKV.out HKT.out h'; unfold InC at h9; rw [hp] at h9; exact h9)
              clear hp
              refine wp_region_quiet_grown hmix (by kernel_rfl) ?_
              repeat (go_big_quiet_step ((go_at_call 15; with_reducible exact quiet_gr (v := .bool true) (HCALL.out _ (HM2.out.trans (gr_grow _ _ _).mle)))))
              refine wpQuiet_nil ?_
              intro _ hw'
              obtain ⟨⟨nq, osq⟩, hw''⟩ := hw'
              subst hw''
              clear d0 d1 d2 d3 x3 y2 y3 z0 z1 z2 z3
              go_wp2
              go_roundw
              case rel =>
                refine ⟨k + 1, by omega, by go_num, bl_heap (gr_grow _ _ _).below HXX.out, bl_heap (gr_grow _ _ _).below HYY.out, HG2.out.trans (gr_grow _ _ _), ?_⟩
                intro j hj hjk
                by_cases e : j = k
                · subst e; exact ⟨fun h2 => hpk, fun h2 => by omega⟩
                · exact hI.out.2.2.2 j hj (by omega)
              case measure => simp [intOf]; omega

            · have hp := inT_false hpk
              have HCALL := Lib.hid (fun (W' : World) (h' : MLe m W'.cell?) => show Calls Tryz.prog 15 #[.agg #[.int .i64 kd', .string tx', .slice ak' nk ck', .slice a1' n1 c1'], .agg #[.int .i64 kd2, .slice ak2 nk2 ck2, .slice a12 n12 c12, .slice a22 n22 c22]] W' (fun e w' => e = .returned (.bool false) ∧ Gr W' w') from by have h9 := HIN.out _ m _ _ _ _ _ _ _ _ _ _ _ _ _ _ _ _ _ _ W' HTk.out HVk.out HKV.out HKT.out h'; unfold InC at h9; rw [hp] at h9; exact h9)
              clear hp
              refine wp_region_quiet_grown hmix (by kernel_rfl) ?_
              repeat (go_big_quiet_step ((go_at_call 15; with_reducible exact quiet_gr (v := .bool false) (HCALL.out _ (HM2.out.trans (gr_grow _ _ _).mle)))))
              refine wpQuiet_nil ?_
              intro _ hw'
              obtain ⟨⟨nq, osq⟩, hw''⟩ := hw'
              subst hw''
              clear d0 d1 d2 d3 x3 y2 y3 z0 z1 z2 z3
              go_wp2
              go_ret
              exact ItC.no (fun h => hpk (h.2.2.1 k hlt hkt1)) (HG2.out.trans (gr_grow _ _ _))

          · go_wp2
            go_ret
            exact ItC.yes ⟨h1', fun _ => h3', fun i h h2 => (hI.out.2.2.2 i h (by omega)).1 h2, fun i h h2 => (hI.out.2.2.2 i h (by omega)).2 h2⟩ hI.out.2.2.1

    · have h0m : 0 < t.more.length := by omega
      have d2 : ((t.more.length : Int) == 0) = false := by rw [beq_eq_false_iff_ne]; omega
      clear h2
      go_enter Tryz.func40, Tryz.ntmps40
      go_wp2
      go_loopw [5, 6, 32] (fun _ _ i wr => ∃ k : Nat, k ≤ v.kids.length ∧ i = .int .i64 k ∧ Hid (
        wr.heap[w.heap.size]? = some (.cells #[.int .i64 v.kind, .string v.text, .slice akv v.keys.length ckv, .slice a1v v.kids.length c1v] 36 (0, 0)) ∧
        wr.heap[w.heap.size + 1]? = some (.cells #[.int .i64 t.kind, .slice ak t.keys.length ck, .slice a1 t.kids.length c1, .slice a2 t.more.length c2] 42 (0, 0)) ∧ Gr w wr ∧
        (∀ i (h : i < v.kids.length), i < k → (∀ (h2 : i < t.kids.length), InP t.kids[i] v.kids[i]) ∧ (t.kids.length ≤ i → ∀ d, t.more[0]? = some d → InP d v.kids[i])))) (fun _ _ i _ => v.kids.length - (intOf i).toNat)
      case atStart => exact ⟨0, Nat.zero_le _, rfl, al_old (al_new rfl), al_new (by simp), ((Gr.refl _).alloc _).alloc _, fun j _ h => absurd h (Nat.not_lt_zero _)⟩
      case round =>
        obtain ⟨k, hkn, rfl, hI⟩ := hrel
        by_cases hlt : k < v.kids.length
        · have hm1 := HM.out.trans hI.out.2.2.1.mle
          obtain ⟨b, off, kd', tx', ak', nk, ck', a1', n1, c1', rfl, e0, e1, e2, e3, hkv⟩ := H1V.out.at hlt
          replace e0 := hm1 _ _ e0
          replace e1 := hm1 _ _ e1
          replace e2 := hm1 _ _ e2
          replace e3 := hm1 _ _ e3
          have HKV := Lib.hid hkv
          have HM1 := Lib.hid hm1
          have HVk := Lib.hid (HV.out.2 _ (List.getElem_mem hlt))
          have HGR := Lib.hid hI.out.2.2.1
          have hX := hI.out.1
          have hY := hI.out.2.1
          have hsz : w.heap.size + 1 < wr.heap.size := lt_blk hY
          clear hkv
          by_cases hkt1 : k < t.kids.length
          · have hkt1 : k < t.kids.length := by omega
            have dk2 : decide ((t.kids.length : Int) ≤ (k : Int)) = false := by simp; omega
            have dk3 : decide (t.kids.length ≤ k) = false := by simp; omega
            obtain ⟨b2, off2, kd2, ak2, nk2, ck2, a12, n12, c12, a22, n22, c22, rfl, z0, z1, z2, z3, hkt⟩ := H1.out.at hkt1
            replace z0 := hm1 _ _ z0
            replace z1 := hm1 _ _ z1
            replace z2 := hm1 _ _ z2
            replace z3 := hm1 _ _ z3
            have HKT := Lib.hid hkt
            have HTk := Lib.hid (HT.out.2.2.1 _ (List.getElem_mem hkt1))
            have HIN := Lib.hid (IH.out t.kids[k] (ST.lt_kid' (List.getElem_mem hkt1)))
            clear hkt hm1
            go_wp2
            have hc := al_new (w := wr) (o := .cells #[.int .i64 kd', .string tx', .slice ak' nk ck', .slice a1' n1 c1'] 36) rfl
            have hX1 := al_old (o := .cells #[.int .i64 kd', .string tx', .slice ak' nk ck', .slice a1' n1 c1'] 36) hX
            have hY1 := al_old (o := .cells #[.int .i64 kd', .string tx', .slice ak' nk ck', .slice a1' n1 c1'] 36) hY
            have hM2 := mle_alloc HM1.out (.cells #[.int .i64 kd', .string tx', .slice ak' nk ck', .slice a1' n1 c1'] 36)
            have hG2 := HGR.out.alloc (.cells #[.int .i64 kd', .string tx', .slice ak' nk ck', .slice a1' n1 c1'] 36)
            have hz0 := ((Gr.refl wr).alloc (.cells #[.int .i64 kd', .string tx', .slice ak' nk ck', .slice a1' n1 c1'] 36)).cell z0
            have hz1 := ((Gr.refl wr).alloc (.cells #[.int .i64 kd', .string tx', .slice ak' nk ck', .slice a1' n1 c1'] 36)).cell z1
            have hz2 := ((Gr.refl wr).alloc (.cells #[.int .i64 kd', .string tx', .slice ak' nk ck', .slice a1' n1 c1'] 36)).cell z2
            have hz3 := ((Gr.refl wr).alloc (.cells #[.int .i64 kd', .string tx', .slice ak' nk ck', .slice a1' n1 c1'] 36)).cell z3
            generalize (wr.alloc (.cells #[.int .i64 kd', .string tx', .slice ak' nk ck', .slice a1' n1 c1'] 36)) = W at hc hX1 hY1 hM2 hG2 hz0 hz1 hz2 hz3 ⊢
            clear z0 z1 z2 z3
            have d0 := fun n os => (gr_grow W n os).cell (cell_blk hc 0 rfl)
            have d1 := fun n os => (gr_grow W n os).cell (cell_blk hc 1 rfl)
            have d2 := fun n os => (gr_grow W n os).cell (cell_blk hc 2 rfl)
            have d3 := fun n os => (gr_grow W n os).cell (cell_blk hc 3 rfl)
            have x3 := fun n os => (gr_grow W n os).cell (cell_blk hX1 3 rfl)
            have y2 := fun n os => (gr_grow W n os).cell (cell_blk hY1 2 rfl)
            have y3 := fun n os => (gr_grow W n os).cell (cell_blk hY1 3 rfl)
            have z0 := fun n os => (gr_grow W n os).cell hz0
            have z1 := fun n os => (gr_grow W n os).cell hz1
            have z2 := fun n os => (gr_grow W n os).cell hz2
            have z3 := fun n os => (gr_grow W n os).cell hz3
            have hmix : Tryz.prog.follows .mixedOrders = true := by kernel_rfl
            have HXX := Lib.hid hX1
            have HYY := Lib.hid hY1
            have HM2 := Lib.hid hM2
            have HG2 := Lib.hid hG2
            clear hX1 hY1 hM2 hG2 hz0 hz1 hz2 hz3
            clear hc hX hY e0 e1 e2 e3
            by_cases hpk : InP t.kids[k] v.kids[k]
            · have hp := inT_true hpk
              have HCALL := Lib.hid (fun (W' : World) (h' : MLe m W'.cell?) => show Calls Tryz.prog 15 #[.agg #[.int .i64 kd', .string tx', .slice ak' nk ck', .slice a1' n1 c1'], .agg #[.int .i64 kd2, .slice ak2 nk2 ck2, .slice a12 n12 c12, .slice a22 n22 c22]] W' (fun e w' => e = .returned (.bool true) ∧ Gr W' w') from by have h9 := HIN.out _ m _ _ _ _ _ _ _ _ _ _ _ _ _ _ _ _ _ _ W' HTk.out HVk.out HKV.out HKT.out h'; unfold InC at h9; rw [hp] at h9; exact h9)
              clear hp
              refine wp_region_quiet_grown hmix (by kernel_rfl) ?_
              repeat (go_big_quiet_step ((go_at_call 15; with_reducible exact quiet_gr (v := .bool true) (HCALL.out _ (HM2.out.trans (gr_grow _ _ _).mle)))))
              refine wpQuiet_nil ?_
              intro _ hw'
              obtain ⟨⟨nq, osq⟩, hw''⟩ := hw'
              subst hw''
              clear d0 d1 d2 d3 x3 y2 y3 z0 z1 z2 z3
              go_wp2
              go_roundw
              case rel =>
                refine ⟨k + 1, by omega, by go_num, bl_heap (gr_grow _ _ _).below HXX.out, bl_heap (gr_grow _ _ _).below HYY.out, HG2.out.trans (gr_grow _ _ _), ?_⟩
                intro j hj hjk
                by_cases e : j = k
                · subst e; exact ⟨fun h2 => hpk, fun h2 => by omega⟩
                · exact hI.out.2.2.2 j hj (by omega)
              case measure => simp [intOf]; omega

            · have hp := inT_false hpk
              have HCALL := Lib.hid (fun (W' : World) (h' : MLe m W'.cell?) => show Calls Tryz.prog 15 #[.agg #[.int .i64 kd', .string tx', .slice ak' nk ck', .slice a1' n1 c1'], .agg #[.int .i64 kd2, .slice ak2 nk2 ck2, .slice a12 n12 c12, .slice a22 n22 c22]] W' (fun e w' => e = .returned (.bool false) ∧ Gr W' w') from by have h9 := HIN.out _ m _ _ _ _ _ _ _ _ _ _ _ _ _ _ _ _ _ _ W' HTk.out HVk.out HKV.out HKT.out h'; unfold InC at h9; rw [hp] at h9; exact h9)
              clear hp
              refine wp_region_quiet_grown hmix (by kernel_rfl) ?_
              repeat (go_big_quiet_step ((go_at_call 15; with_reducible exact quiet_gr (v := .bool false) (HCALL.out _ (HM2.out.trans (gr_grow _ _ _).mle)))))
              refine wpQuiet_nil ?_
              intro _ hw'
              obtain ⟨⟨nq, osq⟩, hw''⟩ := hw'
              subst hw''
              clear d0 d1 d2 d3 x3 y2 y3 z0 z1 z2 z3
              go_wp2
              go_ret
              exact ItC.no (fun h => hpk (h.2.2.1 k hlt hkt1)) (HG2.out.trans (gr_grow _ _ _))

          · have hk0 : t.kids.length ≤ k := by omega
            have dk : decide (k < t.kids.length) = false := by simp; omega
            have dk2 : decide (t.kids.length ≤ k) = true := by simp; omega
            have dk3 : decide ((k : Int) < (t.kids.length : Int)) = false := by simp; omega
            have dk4 : decide ((t.kids.length : Int) ≤ (k : Int)) = true := by simp; omega
            obtain ⟨b2, off2, kd2, ak2, nk2, ck2, a12, n12, c12, a22, n22, c22, rfl, z0, z1, z2, z3, hkt⟩ := H2.out.at h0m
            simp only [Nat.zero_mul, Nat.add_zero] at z0 z1 z2 z3
            replace z0 := hm1 _ _ z0
            replace z1 := hm1 _ _ z1
            replace z2 := hm1 _ _ z2
            replace z3 := hm1 _ _ z3
            have HKT := Lib.hid hkt
            have HTk := Lib.hid (HT.out.2.2.2 _ (List.getElem_mem h0m))
            have HIN := Lib.hid (IH.out t.more[0] (ST.lt_more' (List.getElem_mem h0m)))
            clear hkt hm1
            go_wp2
            have hc := al_new (w := wr) (o := .cells #[.int .i64 kd', .string tx', .slice ak' nk ck', .slice a1' n1 c1'] 36) rfl
            have hX1 := al_old (o := .cells #[.int .i64 kd', .string tx', .slice ak' nk ck', .slice a1' n1 c1'] 36) hX
            have hY1 := al_old (o := .cells #[.int .i64 kd', .string tx', .slice ak' nk ck', .slice a1' n1 c1'] 36) hY
            have hM2 := mle_alloc HM1.out (.cells #[.int .i64 kd', .string tx', .slice ak' nk ck', .slice a1' n1 c1'] 36)
            have hG2 := HGR.out.alloc (.cells #[.int .i64 kd', .string tx', .slice ak' nk ck', .slice a1' n1 c1'] 36)
            have hz0 := ((Gr.refl wr).alloc (.cells #[.int .i64 kd', .string tx', .slice ak' nk ck', .slice a1' n1 c1'] 36)).cell z0
            have hz1 := ((Gr.refl wr).alloc (.cells #[.int .i64 kd', .string tx', .slice ak' nk ck', .slice a1' n1 c1'] 36)).cell z1
            have hz2 := ((Gr.refl wr).alloc (.cells #[.int .i64 kd', .string tx', .slice ak' nk ck', .slice a1' n1 c1'] 36)).cell z2
            have hz3 := ((Gr.refl wr).alloc (.cells #[.int .i64 kd', .string tx', .slice ak' nk ck', .slice a1' n1 c1'] 36)).cell z3
            generalize (wr.alloc (.cells #[.int .i64 kd', .string tx', .slice ak' nk ck', .slice a1' n1 c1'] 36)) = W at hc hX1 hY1 hM2 hG2 hz0 hz1 hz2 hz3 ⊢
            clear z0 z1 z2 z3
            have d0 := fun n os => (gr_grow W n os).cell (cell_blk hc 0 rfl)
            have d1 := fun n os => (gr_grow W n os).cell (cell_blk hc 1 rfl)
            have d2 := fun n os => (gr_grow W n os).cell (cell_blk hc 2 rfl)
            have d3 := fun n os => (gr_grow W n os).cell (cell_blk hc 3 rfl)
            have x3 := fun n os => (gr_grow W n os).cell (cell_blk hX1 3 rfl)
            have y2 := fun n os => (gr_grow W n os).cell (cell_blk hY1 2 rfl)
            have y3 := fun n os => (gr_grow W n os).cell (cell_blk hY1 3 rfl)
            have z0 := fun n os => (gr_grow W n os).cell hz0
            have z1 := fun n os => (gr_grow W n os).cell hz1
            have z2 := fun n os => (gr_grow W n os).cell hz2
            have z3 := fun n os => (gr_grow W n os).cell hz3
            have hmix : Tryz.prog.follows .mixedOrders = true := by kernel_rfl
            have HXX := Lib.hid hX1
            have HYY := Lib.hid hY1
            have HM2 := Lib.hid hM2
            have HG2 := Lib.hid hG2
            clear hX1 hY1 hM2 hG2 hz0 hz1 hz2 hz3
            clear hc hX hY e0 e1 e2 e3
            by_cases hpk : InP t.more[0] v.kids[k]
            · have hp := inT_true hpk
              have HCALL := Lib.hid (fun (W' : World) (h' : MLe m W'.cell?) => show Calls Tryz.prog 15 #[.agg #[.int .i64 kd', .string tx', .slice ak' nk ck', .slice a1' n1 c1'], .agg #[.int .i64 kd2, .slice ak2 nk2 ck2, .slice a12 n12 c12, .slice a22 n22 c22]] W' (fun e w' => e = .returned (.bool true) ∧ Gr W' w') from by have h9 := HIN.out _ m _ _ _ _ _ _ _ _ _ _ _ _ _ _ _ _ _ _ W' HTk.out HVk.out HKV.out HKT.out h'; unfold InC at h9; rw [hp] at h9; exact h9)
              clear hp
              refine wp_region_quiet_grown hmix (by kernel_rfl) ?_
              repeat (go_big_quiet_step ((go_at_call 15; with_reducible exact quiet_gr (v := .bool true) (HCALL.out _ (HM2.out.trans (gr_grow _ _ _).mle)))))
              refine wpQuiet_nil ?_
              intro _ hw'
              obtain ⟨⟨nq, osq⟩, hw''⟩ := hw'
              subst hw''
              clear d0 d1 d2 d3 x3 y2 y3 z0 z1 z2 z3
              go_wp2
              go_roundw
              case rel =>
                refine ⟨k + 1, by omega, by go_num, bl_heap (gr_grow _ _ _).below HXX.out, bl_heap (gr_grow _ _ _).below HYY.out, HG2.out.trans (gr_grow _ _ _), ?_⟩
                intro j hj hjk
                by_cases e : j = k
                · subst e; exact ⟨fun h2 => by omega, fun h2 d hd => by rw [List.getElem?_eq_getElem h0m] at hd; cases hd; exact hpk⟩
                · exact hI.out.2.2.2 j hj (by omega)
              case measure => simp [intOf]; omega

            · have hp := inT_false hpk
              have HCALL := Lib.hid (fun (W' : World) (h' : MLe m W'.cell?) => show Calls Tryz.prog 15 #[.agg #[.int .i64 kd', .string tx', .slice ak' nk ck', .slice a1' n1 c1'], .agg #[.int .i64 kd2, .slice ak2 nk2 ck2, .slice a12 n12 c12, .slice a22 n22 c22]] W' (fun e w' => e = .returned (.bool false) ∧ Gr W' w') from by have h9 := HIN.out _ m _ _ _ _ _ _ _ _ _ _ _ _ _ _ _ _ _ _ W' HTk.out HVk.out HKV.out HKT.out h'; unfold InC at h9; rw [hp] at h9; exact h9)
              clear hp
              refine wp_region_quiet_grown hmix (by kernel_rfl) ?_
              repeat (go_big_quiet_step ((go_at_call 15; with_reducible exact quiet_gr (v := .bool false) (HCALL.out _ (HM2.out.trans (gr_grow _ _ _).mle)))))
              refine wpQuiet_nil ?_
              intro _ hw'
              obtain ⟨⟨nq, osq⟩, hw''⟩ := hw'
              subst hw''
              clear d0 d1 d2 d3 x3 y2 y3 z0 z1 z2 z3
              go_wp2
              go_ret
              exact ItC.no (fun h => hpk (h.2.2.2 k hlt (by omega) _ (List.getElem?_eq_getElem h0m))) (HG2.out.trans (gr_grow _ _ _))

        · go_wp2
          go_ret
          exact ItC.yes ⟨h1', fun h => by omega, fun i h h2 => (hI.out.2.2.2 i h (by omega)).1 h2, fun i h h2 => (hI.out.2.2.2 i h (by omega)).2 h2⟩ hI.out.2.2.1

end Go.Proofs.YtaglgokeejjagaaGreat
/- 'properties': the properties of an object against those of a type. -/
namespace Go.Proofs.YtaglgokeejjagaaGreat
set_option linter.unusedVariables false
set_option linter.unusedSimpArgs false
open Go.RowKit Go.Sort

def PropAt (t : ST) (v : Vl) (i : Nat) : Prop := ∀ (h : i < v.keys.length), (∀ j, stat t.keys v.keys[i] = some j → ∀ (hj : j < t.kids.length) (h2 : i < v.kids.length), InP t.kids[j] v.kids[i]) ∧
  (stat t.keys v.keys[i] = none → 2 ≤ t.more.length ∧ (∀ d, t.more[0]? = some d → InP d (.mk 4 v.keys[i] [] [])) ∧ (∀ d, t.more[1]? = some d → ∀ (h2 : i < v.kids.length), InP d v.kids[i]))
theorem props_of {t : ST} {v : Vl} (h : hits t.keys v.keys = t.keys.length) (h2 : ∀ i, i < v.keys.length → PropAt t v i) : PropsP t v :=
  ⟨h, fun i hi j hs hj h3 => (h2 i hi hi).1 j hs hj h3, fun i hi hs => (h2 i hi hi).2 hs⟩
theorem props_at {t : ST} {v : Vl} (h : PropsP t v) (i : Nat) : PropAt t v i := fun hi => ⟨fun j hs hj h3 => h.2.1 i hi j hs hj h3, fun hs => h.2.2 i hi hs⟩
theorem hits_some {ks : List Ky} {names : List ByteArray} {k : Nat} (h : k < names.length) {j : Nat} (hs : stat ks names[k] = some j) : hits ks (names.take (k + 1)) = hits ks (names.take k) + 1 := by
  unfold hits
  rw [List.take_succ_eq_append_getElem h, List.countP_append, List.countP_singleton, hs]; rfl
theorem hits_none {ks : List Ky} {names : List ByteArray} {k : Nat} (h : k < names.length) (hs : stat ks names[k] = none) : hits ks (names.take (k + 1)) = hits ks (names.take k) := by
  unfold hits
  rw [List.take_succ_eq_append_getElem h, List.countP_append, List.countP_singleton, hs]; rfl
theorem mv_key (m : Mem) (k : ByteArray) : MV m (vlCells 4 k none 0 0 none 0 0) (.mk 4 k [] []) :=
  MV.close (ks := []) (kids := []) ⟨Nat.le_refl _, by decide⟩ ⟨Nat.le_refl _, by decide⟩ (fun h => absurd h (Nat.lt_irrefl _)) ⟨fun _ => [], fun h => absurd h (Nat.lt_irrefl _), fun i h => absurd h (Nat.not_lt_zero _)⟩

set_option maxHeartbeats 6000000 in
set_option maxRecDepth 100000 in
theorem props_any {t : ST} {v : Vl} (IH : Hid (∀ d, SizeOf.sizeOf d < SizeOf.sizeOf t → InOk d)) {m : Mem} {kv : Int} {tx : ByteArray} {akv : Option Addr} {nkv ckv : Nat} {a1v : Option Addr} {n1v c1v : Nat} {kd : Int} {ak : Option Addr} {nk ck : Nat} {a1 : Option Addr} {n1 c1 : Nat} {a2 : Option Addr} {n2 c2 : Nat} {w : World}
    (hwt : Wt t) (hwv : Wv v) (hv : MV m (vlCells kv tx akv nkv ckv a1v n1v c1v) v) (ht : MST m (stCells kd ak nk ck a1 n1 c1 a2 n2 c2) t) (hm : MLe m w.cell?) :
    Calls Tryz.prog 41 #[.agg #[.int .i64 kv, .string tx, .slice akv nkv ckv, .slice a1v n1v c1v], .agg #[.int .i64 kd, .slice ak nk ck, .slice a1 n1 c1, .slice a2 n2 c2]] w (ItC (PropsP t v) w) := by
  obtain ⟨rfl, rfl, rfl, rfl, ⟨lv1, lv2⟩, ⟨lv3, lv4⟩, rkv, r1v⟩ := hv.open
  have HT0 := Lib.hid ht
  obtain ⟨rfl, rfl, rfl, rfl, ⟨lk1, lk2⟩, ⟨l11, l12⟩, ⟨l21, l22⟩, rk, r1, r2⟩ := ht.open
  have HKV := Lib.hid rkv
  have H1V := Lib.hid r1v
  have H2 := Lib.hid r2
  have HM := Lib.hid hm
  have HT := Lib.hid hwt.out
  have HV := Lib.hid hwv.out
  clear rkv r1v rk r1 r2 hv ht hm hwt hwv
  go_enter Tryz.func41, Tryz.ntmps41
  go_wp2
  go_loopw [5, 13] (fun fd i wr => ∃ k c : Nat, k ≤ v.keys.length ∧ c ≤ k ∧ fd = .int .i64 c ∧ i = .int .i64 k ∧ Hid (
    wr.heap[w.heap.size]? = some (.cells #[.int .i64 v.kind, .string v.text, .slice akv v.keys.length ckv, .slice a1v v.kids.length c1v] 36 (0, 0)) ∧
    wr.heap[w.heap.size + 1]? = some (.cells #[.int .i64 t.kind, .slice ak t.keys.length ck, .slice a1 t.kids.length c1, .slice a2 t.more.length c2] 42 (0, 0)) ∧ Gr w wr ∧
    c = hits t.keys (v.keys.take k) ∧ (∀ i, i < k → PropAt t v i))) (fun _ i _ => v.keys.length - (intOf i).toNat)
  case atStart => exact ⟨0, 0, Nat.zero_le _, Nat.zero_le _, rfl, rfl, al_old (al_new rfl), al_new (by simp), ((Gr.refl _).alloc _).alloc _, by simp [hits], fun j h => absurd h (Nat.not_lt_zero _)⟩
  case round =>
    obtain ⟨k, c, hkn, hck, rfl, rfl, hI⟩ := hrel
    have hX := hI.out.1
    have hY := hI.out.2.1
    have HGR := Lib.hid hI.out.2.2.1
    have hsz : w.heap.size + 1 < wr.heap.size := lt_blk hY
    obtain ⟨x0, x1, x2, x3⟩ := cells4 hX
    obtain ⟨y0, y1, y2, y3⟩ := cells4 hY
    by_cases hlt : k < v.keys.length
    · have hm1 := HM.out.trans hI.out.2.2.1.mle
      have HM1 := Lib.hid hm1
      obtain ⟨bs, offs, rfl, s0⟩ := HKV.out.at hlt
      replace s0 := hm1 _ _ s0
      have hl3 : k < v.kids.length := Nat.lt_of_lt_of_le hlt HV.out.1
      obtain ⟨b, off, kd', tx', ak', nk, ck', a1', n1, c1', rfl, e0, e1, e2, e3, hkv⟩ := H1V.out.at hl3
      have HK1 := Lib.hid hkv
      have HVk := Lib.hid (HV.out.2 _ (List.getElem_mem hl3))
      have HE := Lib.hid (And.intro e0 (And.intro e1 (And.intro e2 e3)))
      have HX := Lib.hid hX
      have HY := Lib.hid hY
      have hmix : Tryz.prog.follows .mixedOrders = true := by kernel_rfl
      clear hkv e0 e1 e2 e3 hm1 hX hY
      cases hst : stat t.keys v.keys[k] with
      | some j =>
        have hst' := stat_lt hst
        have hjk : j < t.kids.length := Nat.lt_of_lt_of_le hst' HT.out.2.1
        have HST := Lib.hid hst
        clear hst hst'
        go_wp2_with (go_at_call 50; refine (static_some HT0.out (HM1.out.trans (Gr.refl _).mle) HST.out hjk).mono ?_; rintro e w2 ⟨kd2, ak2, nk2, ck2, a12, n12, c12, a22, n22, c22, rfl, hmst, g2⟩)
        have HKT := Lib.hid hmst
        clear hmst
        have hc := al_new (w := w2) (o := .cells #[.int .i64 kd2, .slice ak2 nk2 ck2, .slice a12 n12 c12, .slice a22 n22 c22] 42) rfl
        have hX1 := al_old (o := .cells #[.int .i64 kd2, .slice ak2 nk2 ck2, .slice a12 n12 c12, .slice a22 n22 c22] 42) (((g2.block (lt_blk HX.out)).trans HX.out))
        have hY1 := al_old (o := .cells #[.int .i64 kd2, .slice ak2 nk2 ck2, .slice a12 n12 c12, .slice a22 n22 c22] 42) (((g2.block (lt_blk HY.out)).trans HY.out))
        have hM2 := mle_alloc (HM1.out.trans g2.mle) (.cells #[.int .i64 kd2, .slice ak2 nk2 ck2, .slice a12 n12 c12, .slice a22 n22 c22] 42)
        have hG2 := (HGR.out.trans g2).alloc (.cells #[.int .i64 kd2, .slice ak2 nk2 ck2, .slice a12 n12 c12, .slice a22 n22 c22] 42)
        generalize (w2.alloc (.cells #[.int .i64 kd2, .slice ak2 nk2 ck2, .slice a12 n12 c12, .slice a22 n22 c22] 42)) = W at hc hX1 hY1 hM2 hG2 ⊢
        have HMW := Lib.hid hM2
        have HGW := Lib.hid hG2
        have HXW := Lib.hid hX1
        have HYW := Lib.hid hY1
        clear hM2 hG2 x0 x1 x2 x3 y0 y1 y2 y3 s0
        have HTk := Lib.hid (HT.out.2.2.1 _ (List.getElem_mem hjk))
        have HIN := Lib.hid (IH.out t.kids[j] (ST.lt_kid' (List.getElem_mem hjk)))
        have d0 := fun n os => (gr_grow W n os).cell (cell_blk hc 0 rfl)
        have d1 := fun n os => (gr_grow W n os).cell (cell_blk hc 1 rfl)
        have d2 := fun n os => (gr_grow W n os).cell (cell_blk hc 2 rfl)
        have d3 := fun n os => (gr_grow W n os).cell (cell_blk hc 3 rfl)
        have x3 := fun n os => (gr_grow W n os).cell (cell_blk hX1 3 rfl)
        have e0 := fun n os => (gr_grow W n os).cell (HMW.out _ _ HE.out.1)
        have e1 := fun n os => (gr_grow W n os).cell (HMW.out _ _ HE.out.2.1)
        have e2 := fun n os => (gr_grow W n os).cell (HMW.out _ _ HE.out.2.2.1)
        have e3 := fun n os => (gr_grow W n os).cell (HMW.out _ _ HE.out.2.2.2)
        have HG9 := Lib.hid g2
        clear hc hX1 hY1 g2
        by_cases hpk : InP t.kids[j] v.kids[k]
        · have hp := inT_true hpk
          have HCALL := Lib.hid (fun (W' : World) (h' : MLe m W'.cell?) => show Calls Tryz.prog 15 #[.agg #[.int .i64 kd', .string tx', .slice ak' nk ck', .slice a1' n1 c1'], .agg #[.int .i64 kd2, .slice ak2 nk2 ck2, .slice a12 n12 c12, .slice a22 n22 c22]] W' (fun e w' => e = .returned (.bool true) ∧ Gr W' w') from by have h9 := HIN.out _ m _ _ _ _ _ _ _ _ _ _ _ _ _ _ _ _ _ _ W' HTk.out HVk.out HK1.out HKT.out h'; unfold InC at h9; rw [hp] at h9; exact h9)
          clear hp
          refine wp_region_quiet_grown hmix (by kernel_rfl) ?_
          repeat (go_big_quiet_step ((go_at_call 15; with_reducible exact quiet_gr (v := .bool true) (HCALL.out _ (HMW.out.trans (gr_grow _ _ _).mle)))))
          refine wpQuiet_nil ?_
          intro _ hw'
          obtain ⟨⟨nq, osq⟩, hw''⟩ := hw'
          subst hw''
          clear d0 d1 d2 d3 x3 e0 e1 e2 e3
          go_wp2
          go_roundw
          case rel =>
            refine ⟨k + 1, c + 1, by omega, by omega, by go_num, by go_num, bl_heap (gr_grow _ _ _).below HXW.out, bl_heap (gr_grow _ _ _).below HYW.out, HGW.out.trans (gr_grow _ _ _), ?_, ?_⟩
            · rw [hits_some hlt HST.out, hI.out.2.2.2.1]
            · intro i hik
              by_cases e : i = k
              · subst e
                exact fun h => ⟨fun j' hs' hj' h2' => by have e := hs'.symm.trans HST.out; cases e; exact hpk, fun hs' => by have e := hs'.symm.trans HST.out; cases e⟩
              · exact hI.out.2.2.2.2 i (by omega)
          case measure => simp [intOf]; omega

        · have hp := inT_false hpk
          have HCALL := Lib.hid (fun (W' : World) (h' : MLe m W'.cell?) => show Calls Tryz.prog 15 #[.agg #[.int .i64 kd', .string tx', .slice ak' nk ck', .slice a1' n1 c1'], .agg #[.int .i64 kd2, .slice ak2 nk2 ck2, .slice a12 n12 c12, .slice a22 n22 c22]] W' (fun e w' => e = .returned (.bool false) ∧ Gr W' w') from by have h9 := HIN.out _ m _ _ _ _ _ _ _ _ _ _ _ _ _ _ _ _ _ _ W' HTk.out HVk.out HK1.out HKT.out h'; unfold InC at h9; rw [hp] at h9; exact h9)
          clear hp
          refine wp_region_quiet_grown hmix (by kernel_rfl) ?_
          repeat (go_big_quiet_step ((go_at_call 15; with_reducible exact quiet_gr (v := .bool false) (HCALL.out _ (HMW.out.trans (gr_grow _ _ _).mle)))))
          refine wpQuiet_nil ?_
          intro _ hw'
          obtain ⟨⟨nq, osq⟩, hw''⟩ := hw'
          subst hw''
          clear d0 d1 d2 d3 x3 e0 e1 e2 e3
          go_wp2
          have hG3 := HGW.out.trans (gr_grow W nq osq)
          generalize (grow (W.drewN nq) osq) = W2 at hG3 ⊢
          refine wp_region_quiet_grown hmix (by kernel_rfl) ?_
          repeat (go_big_quiet_step ((skip)))
          refine wpQuiet_nil ?_
          intro _ hw'
          obtain ⟨⟨nq, osq⟩, hw''⟩ := hw'
          subst hw''
          clear hmix
          go_wp2
          go_ret
          exact ItC.no (fun h => hpk ((props_at h k hlt).1 _ HST.out hjk hl3)) (hG3.trans (gr_grow _ _ _))

      | none =>
        have HST := Lib.hid hst
        clear hst
        go_wp2_with (go_at_call 50; refine (static_none HT0.out (HM1.out.trans (Gr.refl _).mle) HST.out).mono ?_; rintro e w2 ⟨rfl, g2⟩)
        have hc := al_new (w := w2) (o := .cells #[.int .i64 0, .slice none 0 0, .slice none 0 0, .slice none 0 0] 42) rfl
        have hX1 := al_old (o := .cells #[.int .i64 0, .slice none 0 0, .slice none 0 0, .slice none 0 0] 42) (((g2.block (lt_blk HX.out)).trans HX.out))
        have hY1 := al_old (o := .cells #[.int .i64 0, .slice none 0 0, .slice none 0 0, .slice none 0 0] 42) (((g2.block (lt_blk HY.out)).trans HY.out))
        have hM2 := mle_alloc (HM1.out.trans g2.mle) (.cells #[.int .i64 0, .slice none 0 0, .slice none 0 0, .slice none 0 0] 42)
        have hG2 := (HGR.out.trans g2).alloc (.cells #[.int .i64 0, .slice none 0 0, .slice none 0 0, .slice none 0 0] 42)
        generalize (w2.alloc (.cells #[.int .i64 0, .slice none 0 0, .slice none 0 0, .slice none 0 0] 42)) = W at hc hX1 hY1 hM2 hG2 ⊢
        have HMW := Lib.hid hM2
        have HGW := Lib.hid hG2
        have HXW := Lib.hid hX1
        have HYW := Lib.hid hY1
        clear hM2 hG2 x0 x1 x2 x3 y0 y1 y2 y3 s0
        have HG9 := Lib.hid g2
        clear hc hX1 hY1 g2
        refine wp_region_quiet_grown hmix (by kernel_rfl) ?_
        repeat (go_big_quiet_step ((skip)))
        refine wpQuiet_nil ?_
        intro _ hw'
        obtain ⟨⟨nq, osq⟩, hw''⟩ := hw'
        subst hw''
        clear HG9
        go_wp2
        have hG3 := HGW.out.trans (gr_grow W nq osq)
        have hM3 := HMW.out.trans (gr_grow W nq osq).mle
        have hX3 := bl_heap (gr_grow W nq osq).below HXW.out
        have hY3 := bl_heap (gr_grow W nq osq).below HYW.out
        generalize (grow (W.drewN nq) osq) = W2 at hG3 hM3 hX3 hY3 ⊢
        have HG3 := Lib.hid hG3
        have HM3 := Lib.hid hM3
        have HX3 := Lib.hid hX3
        have HY3 := Lib.hid hY3
        have x3 := fun n os => (gr_grow W2 n os).cell (cell_blk hX3 3 rfl)
        have y3 := fun n os => (gr_grow W2 n os).cell (cell_blk hY3 3 rfl)
        clear hG3 hM3 hX3 hY3
        by_cases h2m : t.more.length < 2
        · have f1 : decide ((t.more.length : Int) < 2) = true := by simp; omega
          refine wp_region_quiet_grown hmix (by kernel_rfl) ?_
          repeat (go_big_quiet_step ((skip)))
          refine wpQuiet_nil ?_
          intro _ hw'
          obtain ⟨⟨nq, osq⟩, hw''⟩ := hw'
          subst hw''
          clear x3 y3
          go_wp2
          go_ret
          exact ItC.no (fun h => by have := ((props_at h k hlt).2 HST.out).1; omega) (HG3.out.trans (gr_grow _ _ _))

        · have f1 : decide ((t.more.length : Int) < 2) = false := by simp; omega
          have f2 : decide (t.more.length < 2) = false := by simp; omega
          have hm0 : 0 < t.more.length := by omega
          have hm1 : 1 < t.more.length := by omega
          clear h2m
          obtain ⟨b2, off2, kdp, akp, nkp, ckp, a1p, n1p, c1p, a2p, n2p, c2p, rfl, z0, z1, z2, z3, hzt⟩ := H2.out.at hm0
          obtain ⟨b2', off2', kdq, akq, nkq, ckq, a1q, n1q, c1q, a2q, n2q, c2q, eb, q0, q1, q2, q3, hqt⟩ := H2.out.at hm1
          simp only [Option.some.injEq, Addr.mk.injEq, and_true] at eb
          obtain ⟨rfl, rfl⟩ := eb
          simp only [Nat.zero_mul, Nat.add_zero] at z0 z1 z2 z3
          simp only [Nat.one_mul] at q0 q1 q2 q3
          have HZT := Lib.hid hzt
          have HQT := Lib.hid hqt
          have HTp := Lib.hid (HT.out.2.2.2 _ (List.getElem_mem hm0))
          have HTq := Lib.hid (HT.out.2.2.2 _ (List.getElem_mem hm1))
          have HINp := Lib.hid (IH.out t.more[0] (ST.lt_more' (List.getElem_mem hm0)))
          have HINq := Lib.hid (IH.out t.more[1] (ST.lt_more' (List.getElem_mem hm1)))
          replace z0 := fun n os => (gr_grow W2 n os).cell (HM3.out _ _ z0)
          replace z1 := fun n os => (gr_grow W2 n os).cell (HM3.out _ _ z1)
          replace z2 := fun n os => (gr_grow W2 n os).cell (HM3.out _ _ z2)
          replace z3 := fun n os => (gr_grow W2 n os).cell (HM3.out _ _ z3)
          replace q0 := fun n os => (gr_grow W2 n os).cell (HM3.out _ _ q0)
          replace q1 := fun n os => (gr_grow W2 n os).cell (HM3.out _ _ q1)
          replace q2 := fun n os => (gr_grow W2 n os).cell (HM3.out _ _ q2)
          replace q3 := fun n os => (gr_grow W2 n os).cell (HM3.out _ _ q3)
          have e0 := fun n os => (gr_grow W2 n os).cell (HM3.out _ _ HE.out.1)
          have e1 := fun n os => (gr_grow W2 n os).cell (HM3.out _ _ HE.out.2.1)
          have e2 := fun n os => (gr_grow W2 n os).cell (HM3.out _ _ HE.out.2.2.1)
          have e3 := fun n os => (gr_grow W2 n os).cell (HM3.out _ _ HE.out.2.2.2)
          clear hzt hqt
          have HWK := Lib.hid (Wv.mk (kd := 4) (tx := v.keys[k]) (ks := []) (kids := []) (Nat.le_refl _) (by simp))
          by_cases hpk : InP t.more[0] (.mk 4 v.keys[k] [] [])
          · have hp := inT_true hpk
            have HC1 := Lib.hid (fun (W' : World) (h' : MLe m W'.cell?) => show Calls Tryz.prog 15 #[.agg #[.int .i64 4, .string v.keys[k], .slice none 0 0, .slice none 0 0], .agg #[.int .i64 kdp, .slice akp nkp ckp, .slice a1p n1p c1p, .slice a2p n2p c2p]] W' (fun e w' => e = .returned (.bool true) ∧ Gr W' w') from by have h9 := HINp.out _ m _ _ _ _ _ _ _ _ _ _ _ _ _ _ _ _ _ _ W' HTp.out HWK.out (mv_key m _) HZT.out h'; unfold InC at h9; rw [hp] at h9; exact h9)
            clear hp
            by_cases hpq : InP t.more[1] v.kids[k]
            · have hp := inT_true hpq
              have HC2 := Lib.hid (fun (W' : World) (h' : MLe m W'.cell?) => show Calls Tryz.prog 15 #[.agg #[.int .i64 kd', .string tx', .slice ak' nk ck', .slice a1' n1 c1'], .agg #[.int .i64 kdq, .slice akq nkq ckq, .slice a1q n1q c1q, .slice a2q n2q c2q]] W' (fun e w' => e = .returned (.bool true) ∧ Gr W' w') from by have h9 := HINq.out _ m _ _ _ _ _ _ _ _ _ _ _ _ _ _ _ _ _ _ W' HTq.out HVk.out HK1.out HQT.out h'; unfold InC at h9; rw [hp] at h9; exact h9)
              clear hp
              refine wp_region_quiet_grown hmix (by kernel_rfl) ?_
              repeat (go_big_quiet_step ((go_at_call 15; first | with_reducible exact quiet_gr (v := .bool true) (HC1.out _ (HM3.out.trans (gr_grow _ _ _).mle)) | with_reducible exact quiet_gr (v := .bool true) (HC2.out _ (HM3.out.trans (gr_grow _ _ _).mle)))))
              refine wpQuiet_nil ?_
              intro _ hw'
              obtain ⟨⟨nq, osq⟩, hw''⟩ := hw'
              subst hw''
              clear x3 y3 z0 z1 z2 z3 q0 q1 q2 q3 e0 e1 e2 e3
              go_wp2
              go_roundw
              case rel =>
                refine ⟨k + 1, c, by omega, by omega, by go_num, by go_num, bl_heap (gr_grow _ _ _).below HX3.out, bl_heap (gr_grow _ _ _).below HY3.out, HG3.out.trans (gr_grow _ _ _), ?_, ?_⟩
                · rw [hits_none hlt HST.out, hI.out.2.2.2.1]
                · intro i hik
                  by_cases e : i = k
                  · subst e
                    exact fun h => ⟨fun j' hs' hj' h2' => (by have e := hs'.symm.trans HST.out; cases e), fun hs' => ⟨by omega, fun d hd => by rw [List.getElem?_eq_getElem hm0] at hd; cases hd; exact hpk, fun d hd h2 => by rw [List.getElem?_eq_getElem hm1] at hd; cases hd; exact hpq⟩⟩
                  · exact hI.out.2.2.2.2 i (by omega)
              case measure => simp [intOf]; omega

            · have hp := inT_false hpq
              have HC2 := Lib.hid (fun (W' : World) (h' : MLe m W'.cell?) => show Calls Tryz.prog 15 #[.agg #[.int .i64 kd', .string tx', .slice ak' nk ck', .slice a1' n1 c1'], .agg #[.int .i64 kdq, .slice akq nkq ckq, .slice a1q n1q c1q, .slice a2q n2q c2q]] W' (fun e w' => e = .returned (.bool false) ∧ Gr W' w') from by have h9 := HINq.out _ m _ _ _ _ _ _ _ _ _ _ _ _ _ _ _ _ _ _ W' HTq.out HVk.out HK1.out HQT.out h'; unfold InC at h9; rw [hp] at h9; exact h9)
              clear hp
              refine wp_region_quiet_grown hmix (by kernel_rfl) ?_
              repeat (go_big_quiet_step ((go_at_call 15; first | with_reducible exact quiet_gr (v := .bool true) (HC1.out _ (HM3.out.trans (gr_grow _ _ _).mle)) | with_reducible exact quiet_gr (v := .bool false) (HC2.out _ (HM3.out.trans (gr_grow _ _ _).mle)))))
              refine wpQuiet_nil ?_
              intro _ hw'
              obtain ⟨⟨nq, osq⟩, hw''⟩ := hw'
              subst hw''
              clear x3 y3 z0 z1 z2 z3 q0 q1 q2 q3 e0 e1 e2 e3
              go_wp2
              go_ret
              exact ItC.no (fun h => hpq (((props_at h k hlt).2 HST.out).2.2 _ (List.getElem?_eq_getElem hm1) hl3)) (HG3.out.trans (gr_grow _ _ _))

          · have hp := inT_false hpk
            have HC1 := Lib.hid (fun (W' : World) (h' : MLe m W'.cell?) => show Calls Tryz.prog 15 #[.agg #[.int .i64 4, .string v.keys[k], .slice none 0 0, .slice none 0 0], .agg #[.int .i64 kdp, .slice akp nkp ckp, .slice a1p n1p c1p, .slice a2p n2p c2p]] W' (fun e w' => e = .returned (.bool false) ∧ Gr W' w') from by have h9 := HINp.out _ m _ _ _ _ _ _ _ _ _ _ _ _ _ _ _ _ _ _ W' HTp.out HWK.out (mv_key m _) HZT.out h'; unfold InC at h9; rw [hp] at h9; exact h9)
            clear hp
            refine wp_region_quiet_grown hmix (by kernel_rfl) ?_
            repeat (go_big_quiet_step ((go_at_call 15; with_reducible exact quiet_gr (v := .bool false) (HC1.out _ (HM3.out.trans (gr_grow _ _ _).mle)))))
            refine wpQuiet_nil ?_
            intro _ hw'
            obtain ⟨⟨nq, osq⟩, hw''⟩ := hw'
            subst hw''
            clear x3 y3 z0 z1 z2 z3 q0 q1 q2 q3 e0 e1 e2 e3
            go_wp2
            go_ret
            exact ItC.no (fun h => hpk (((props_at h k hlt).2 HST.out).2.1 _ (List.getElem?_eq_getElem hm0))) (HG3.out.trans (gr_grow _ _ _))

    · have ek : k = v.keys.length := by omega
      have hcc : c = hits t.keys v.keys := by have h := hI.out.2.2.2.1; rw [ek, List.take_length] at h; exact h
      have HC := Lib.hid hcc
      have HEK := Lib.hid ek
      clear hcc ek
      by_cases hq : c = t.keys.length
      · have f1 : ((c : Int) == (t.keys.length : Int)) = true := by rw [beq_iff_eq]; omega
        have HQ := Lib.hid hq
        clear hq
        go_wp2
        go_ret
        exact ItC.yes (props_of (by rw [← HC.out]; exact HQ.out) (fun i hi => hI.out.2.2.2.2 i (by have := HEK.out; omega))) HGR.out
      · have f1 : ((c : Int) == (t.keys.length : Int)) = false := by rw [beq_eq_false_iff_ne]; omega
        have HQ := Lib.hid hq
        clear hq
        go_wp2
        go_ret
        exact ItC.no (fun h => HQ.out (by rw [HC.out]; exact h.1)) HGR.out
end Go.Proofs.YtaglgokeejjagaaGreat
/- 'In' says whether a type has a value. -/
namespace Go.Proofs.YtaglgokeejjagaaGreat
set_option linter.unusedVariables false
set_option linter.unusedSimpArgs false
open Go.RowKit Go.Sort

theorem InC.yes {t : ST} {v : Vl} {w w' : World} (h : InP t v) (g : Gr w w') : InC t v w (.returned (.bool true)) w' := ⟨by rw [inT_true h], g⟩
theorem InC.no {t : ST} {v : Vl} {w w' : World} (h : ¬ InP t v) (g : Gr w w') : InC t v w (.returned (.bool false)) w' := ⟨by rw [inT_false h], g⟩
theorem InC.of {t : ST} {v : Vl} {w w' : World} {b : Bool} {P : Prop} (h : b = true ↔ P) (e : InP t v ↔ P) (g : Gr w w') : InC t v w (.returned (.bool b)) w' := by
  cases b
  · exact .no (fun h2 => by have := h.2 (e.1 h2); cases this) g
  · exact .yes (e.2 (h.1 rfl)) g

section
variable {t : ST} {v : Vl} {m : Mem} {akv : Option Addr} {ckv : Nat} {a1v : Option Addr} {c1v : Nat} {ak : Option Addr} {ck : Nat} {a1 : Option Addr} {c1 : Nat} {a2 : Option Addr} {c2 : Nat} {w : World}

set_option maxHeartbeats 2000000 in
set_option maxRecDepth 100000 in
theorem in_1 {kd : Int} (hk : kd = 1) (ht : t.kind = kd) {nk n1 n2 nkv n1v : Nat} {tx : ByteArray} : 
    Calls Tryz.prog 15 #[.agg #[.int .i64 v.kind, .string tx, .slice akv nkv ckv, .slice a1v n1v c1v], .agg #[.int .i64 kd, .slice ak nk ck, .slice a1 n1 c1, .slice a2 n2 c2]] w (InC t v w) := by
  have HI := Lib.hid (inP_null (v := v) (ht.trans hk))
  clear ht
  subst hk
  by_cases h : v.kind = 0
  · have HH := Lib.hid h
    have f : (v.kind == 0) = true := by rw [beq_iff_eq]; exact h
    clear h
    go_enter Tryz.func15, Tryz.ntmps15
    go_wp2
    go_ret
    exact InC.yes (HI.out.2 HH.out) (((Gr.refl _).alloc _).alloc _)
  · have HH := Lib.hid h
    have f : (v.kind == 0) = false := by rw [beq_eq_false_iff_ne]; exact h
    clear h
    go_enter Tryz.func15, Tryz.ntmps15
    go_wp2
    go_ret
    exact InC.no (fun h => HH.out (HI.out.1 h)) (((Gr.refl _).alloc _).alloc _)

set_option maxHeartbeats 2000000 in
set_option maxRecDepth 100000 in
theorem in_2 {kd : Int} (hk : kd = 2) (ht : t.kind = kd) {nk n1 n2 nkv n1v : Nat} {tx : ByteArray} : 
    Calls Tryz.prog 15 #[.agg #[.int .i64 v.kind, .string tx, .slice akv nkv ckv, .slice a1v n1v c1v], .agg #[.int .i64 kd, .slice ak nk ck, .slice a1 n1 c1, .slice a2 n2 c2]] w (InC t v w) := by
  have HI := Lib.hid (inP_bool (v := v) (ht.trans hk))
  clear ht
  subst hk
  by_cases h : v.kind = 1
  · have HH := Lib.hid h
    have f : (v.kind == 1) = true := by rw [beq_iff_eq]; exact h
    clear h
    go_enter Tryz.func15, Tryz.ntmps15
    go_wp2
    go_ret
    exact InC.yes (HI.out.2 (.inl HH.out)) (((Gr.refl _).alloc _).alloc _)
  · have HH := Lib.hid h
    have f : (v.kind == 1) = false := by rw [beq_eq_false_iff_ne]; exact h
    clear h
    by_cases h : v.kind = 2
    · have HH := Lib.hid h
      have f : (v.kind == 2) = true := by rw [beq_iff_eq]; exact h
      clear h
      go_enter Tryz.func15, Tryz.ntmps15
      go_wp2
      go_ret
      exact InC.yes (HI.out.2 (.inr HH.out)) (((Gr.refl _).alloc _).alloc _)
    · have HH2 := Lib.hid h
      have f : (v.kind == 2) = false := by rw [beq_eq_false_iff_ne]; exact h
      clear h
      go_enter Tryz.func15, Tryz.ntmps15
      go_wp2
      go_ret
      exact InC.no (fun h => (HI.out.1 h).elim HH.out HH2.out) (((Gr.refl _).alloc _).alloc _)

set_option maxHeartbeats 2000000 in
set_option maxRecDepth 100000 in
theorem in_3 {kd : Int} (hk : kd = 3) (ht : t.kind = kd) {nk n1 n2 nkv n1v : Nat} {tx : ByteArray} : 
    Calls Tryz.prog 15 #[.agg #[.int .i64 v.kind, .string tx, .slice akv nkv ckv, .slice a1v n1v c1v], .agg #[.int .i64 kd, .slice ak nk ck, .slice a1 n1 c1, .slice a2 n2 c2]] w (InC t v w) := by
  have HI := Lib.hid (inP_num (v := v) (ht.trans hk))
  clear ht
  subst hk
  by_cases h : v.kind = 3
  · have HH := Lib.hid h
    have f : (v.kind == 3) = true := by rw [beq_iff_eq]; exact h
    clear h
    go_enter Tryz.func15, Tryz.ntmps15
    go_wp2
    go_ret
    exact InC.yes (HI.out.2 HH.out) (((Gr.refl _).alloc _).alloc _)
  · have HH := Lib.hid h
    have f : (v.kind == 3) = false := by rw [beq_eq_false_iff_ne]; exact h
    clear h
    go_enter Tryz.func15, Tryz.ntmps15
    go_wp2
    go_ret
    exact InC.no (fun h => HH.out (HI.out.1 h)) (((Gr.refl _).alloc _).alloc _)

set_option maxHeartbeats 2000000 in
set_option maxRecDepth 100000 in
theorem in_4 {kd : Int} (hk : kd = 4) (ht : t.kind = kd) {nk n1 n2 nkv n1v : Nat} {tx : ByteArray} : 
    Calls Tryz.prog 15 #[.agg #[.int .i64 v.kind, .string tx, .slice akv nkv ckv, .slice a1v n1v c1v], .agg #[.int .i64 kd, .slice ak nk ck, .slice a1 n1 c1, .slice a2 n2 c2]] w (InC t v w) := by
  have HI := Lib.hid (inP_str (v := v) (ht.trans hk))
  clear ht
  subst hk
  by_cases h : v.kind = 4
  · have HH := Lib.hid h
    have f : (v.kind == 4) = true := by rw [beq_iff_eq]; exact h
    clear h
    go_enter Tryz.func15, Tryz.ntmps15
    go_wp2
    go_ret
    exact InC.yes (HI.out.2 HH.out) (((Gr.refl _).alloc _).alloc _)
  · have HH := Lib.hid h
    have f : (v.kind == 4) = false := by rw [beq_eq_false_iff_ne]; exact h
    clear h
    go_enter Tryz.func15, Tryz.ntmps15
    go_wp2
    go_ret
    exact InC.no (fun h => HH.out (HI.out.1 h)) (((Gr.refl _).alloc _).alloc _)

set_option maxHeartbeats 2000000 in
set_option maxRecDepth 100000 in
theorem in_5 {kd kv : Int} (hk : kd = 5) (ht : t.kind = kd) (hkv : v.kind = kv) {nk n1 n2 nkv n1v : Nat} {tx : ByteArray} 
    (HC : Hid (∀ (W : World), MLe w.cell? W.cell? → Calls Tryz.prog 40 #[.agg #[.int .i64 kv, .string tx, .slice akv nkv ckv, .slice a1v n1v c1v], .agg #[.int .i64 5, .slice ak nk ck, .slice a1 n1 c1, .slice a2 n2 c2]] W (ItC (ItemsP t v) W))) :
    Calls Tryz.prog 15 #[.agg #[.int .i64 kv, .string tx, .slice akv nkv ckv, .slice a1v n1v c1v], .agg #[.int .i64 kd, .slice ak nk ck, .slice a1 n1 c1, .slice a2 n2 c2]] w (InC t v w) := by
  have HI := Lib.hid (inP_arr (v := v) (ht.trans hk))
  clear ht
  subst hk
  have HKV := Lib.hid hkv
  clear hkv
  by_cases h : kv = 5
  · subst h
    go_enter Tryz.func15, Tryz.ntmps15
    go_wp2_with (go_at_call 40; refine (HC.out _ (((Gr.refl _).alloc _).alloc _).mle).mono ?_; rintro e w2 ⟨b, rfl, hb, g⟩)
    go_ret
    exact InC.of hb (HI.out.trans ⟨fun h => h.2, fun h => ⟨HKV.out, h⟩⟩) ((((Gr.refl _).alloc _).alloc _).trans g)
  · have HH := Lib.hid h
    have f : (kv == 5) = false := by rw [beq_eq_false_iff_ne]; exact h
    clear h
    go_enter Tryz.func15, Tryz.ntmps15
    go_wp2
    go_ret
    exact InC.no (fun h => HH.out (HKV.out.symm.trans (HI.out.1 h).1)) (((Gr.refl _).alloc _).alloc _)

set_option maxHeartbeats 2000000 in
set_option maxRecDepth 100000 in
theorem in_6 {kd kv : Int} (hk : kd = 6) (ht : t.kind = kd) (hkv : v.kind = kv) {nk n1 n2 nkv n1v : Nat} {tx : ByteArray} 
    (HC : Hid (∀ (W : World), MLe w.cell? W.cell? → Calls Tryz.prog 41 #[.agg #[.int .i64 kv, .string tx, .slice akv nkv ckv, .slice a1v n1v c1v], .agg #[.int .i64 6, .slice ak nk ck, .slice a1 n1 c1, .slice a2 n2 c2]] W (ItC (PropsP t v) W))) :
    Calls Tryz.prog 15 #[.agg #[.int .i64 kv, .string tx, .slice akv nkv ckv, .slice a1v n1v c1v], .agg #[.int .i64 kd, .slice ak nk ck, .slice a1 n1 c1, .slice a2 n2 c2]] w (InC t v w) := by
  have HI := Lib.hid (inP_obj (v := v) (ht.trans hk))
  clear ht
  subst hk
  have HKV := Lib.hid hkv
  clear hkv
  by_cases h : kv = 6
  · subst h
    go_enter Tryz.func15, Tryz.ntmps15
    go_wp2_with (go_at_call 41; refine (HC.out _ (((Gr.refl _).alloc _).alloc _).mle).mono ?_; rintro e w2 ⟨b, rfl, hb, g⟩)
    go_ret
    exact InC.of hb (HI.out.trans ⟨fun h => h.2, fun h => ⟨HKV.out, h⟩⟩) ((((Gr.refl _).alloc _).alloc _).trans g)
  · have HH := Lib.hid h
    have f : (kv == 6) = false := by rw [beq_eq_false_iff_ne]; exact h
    clear h
    go_enter Tryz.func15, Tryz.ntmps15
    go_wp2
    go_ret
    exact InC.no (fun h => HH.out (HKV.out.symm.trans (HI.out.1 h).1)) (((Gr.refl _).alloc _).alloc _)

set_option maxHeartbeats 2000000 in
set_option maxRecDepth 100000 in
theorem in_8 {kd : Int} (hk : kd = 8) (ht : t.kind = kd) (hwv : Wv v) (hwt : Wt t) (IH : Hid (∀ d, SizeOf.sizeOf d < SizeOf.sizeOf t → InOk d))
    (hv : MV m (vlCells v.kind v.text akv v.keys.length ckv a1v v.kids.length c1v) v) (hr : RowST m a1 t.kids) (hl : lenOk t.kids.length c1) (hm : MLe m w.cell?) {nk n2 : Nat} :
    Calls Tryz.prog 15 #[.agg #[.int .i64 v.kind, .string v.text, .slice akv v.keys.length ckv, .slice a1v v.kids.length c1v], .agg #[.int .i64 kd, .slice ak nk ck, .slice a1 t.kids.length c1, .slice a2 n2 c2]] w (InC t v w) := by
  have HI := Lib.hid (inP_any (v := v) (ht.trans hk))
  obtain ⟨l1, l2⟩ := hl
  clear ht
  subst hk
  have HV := Lib.hid hv
  have H1 := Lib.hid hr
  have HM := Lib.hid hm
  have HT := Lib.hid hwt.out
  have HWV := Lib.hid hwv
  clear hv hr hm hwt hwv
  by_cases h0 : t.kids.length ≤ 0
  · have f : (t.kids.length == 0) = true := by rw [beq_iff_eq]; omega
    have f2 : ((t.kids.length : Int) == 0) = true := by rw [beq_iff_eq]; omega
    have HH : Hid (t.kids.length = 0) := Lib.hid (by omega)
    go_enter Tryz.func15, Tryz.ntmps15
    go_wp2
    refine wp_loop_once ?_
    go_wp2
    go_ret
    exact InC.yes (HI.out.2 (.inl HH.out)) (((Gr.refl _).alloc _).alloc _)
  · have h1 : 0 < t.kids.length := by omega
    have f : (t.kids.length == 0) = false := by rw [beq_eq_false_iff_ne]; omega
    have f2 : ((t.kids.length : Int) == 0) = false := by rw [beq_eq_false_iff_ne]; omega
    clear h0
    go_enter Tryz.func15, Tryz.ntmps15
    go_wp2
    go_loopw [59] (fun i wr => ∃ k : Nat, k ≤ t.kids.length ∧ i = .int .i64 k ∧ Hid (
      wr.heap[w.heap.size]? = some (.cells #[.int .i64 v.kind, .string v.text, .slice akv v.keys.length ckv, .slice a1v v.kids.length c1v] 36 (0, 0)) ∧
      wr.heap[w.heap.size + 1]? = some (.cells #[.int .i64 8, .slice ak nk ck, .slice a1 t.kids.length c1, .slice a2 n2 c2] 42 (0, 0)) ∧ Gr w wr ∧ (∀ i (h : i < t.kids.length), i < k → ¬ InP t.kids[i] v))) (fun i _ => t.kids.length - (intOf i).toNat)
    case atStart => exact ⟨0, Nat.zero_le _, rfl, al_old (al_new rfl), al_new (by simp), ((Gr.refl _).alloc _).alloc _, fun j _ h => absurd h (Nat.not_lt_zero _)⟩
    case round =>
      obtain ⟨k, hkn, rfl, hI⟩ := hrel
      have hX := hI.out.1
      have hY := hI.out.2.1
      have HGR := Lib.hid hI.out.2.2.1
      have hsz : w.heap.size + 1 < wr.heap.size := lt_blk hY
      obtain ⟨x0, x1, x2, x3⟩ := cells4 hX
      obtain ⟨y0, y1, y2, y3⟩ := cells4 hY
      have HX := Lib.hid hX
      have HY := Lib.hid hY
      clear hX hY
      by_cases hlt : k < t.kids.length
      · have hm1 := HM.out.trans hI.out.2.2.1.mle
        have HM1 := Lib.hid hm1
        obtain ⟨b2, off2, kd2, ak2, nk2, ck2, a12, n12, c12, a22, n22, c22, rfl, z0, z1, z2, z3, hkt⟩ := H1.out.at hlt
        replace z0 := hm1 _ _ z0
        replace z1 := hm1 _ _ z1
        replace z2 := hm1 _ _ z2
        replace z3 := hm1 _ _ z3
        have HKT := Lib.hid hkt
        have HTk := Lib.hid (HT.out.2.2.1 _ (List.getElem_mem hlt))
        have HIN := Lib.hid (IH.out t.kids[k] (ST.lt_kid' (List.getElem_mem hlt)))
        clear hkt hm1
        have hs0 : w.heap.size < wr.heap.size := by omega
        have c0 : ∀ o, (wr.alloc o).cell? ⟨w.heap.size, 0, none⟩ = some (.int .i64 v.kind) := fun o => ((Gr.refl wr).alloc o).cell x0
        have c1' : ∀ o, (wr.alloc o).cell? ⟨w.heap.size, 1, none⟩ = some (.string v.text) := fun o => ((Gr.refl wr).alloc o).cell x1
        have c2' : ∀ o, (wr.alloc o).cell? ⟨w.heap.size, 2, none⟩ = some (.slice akv v.keys.length ckv) := fun o => ((Gr.refl wr).alloc o).cell x2
        have c3' : ∀ o, (wr.alloc o).cell? ⟨w.heap.size, 3, none⟩ = some (.slice a1v v.kids.length c1v) := fun o => ((Gr.refl wr).alloc o).cell x3
        by_cases hpk : InP t.kids[k] v
        · have hp := Lib.hid (inT_true hpk)
          go_wp2_with (go_at_call 15; refine (HIN.out _ m _ _ _ _ _ _ _ _ _ _ _ _ _ _ _ _ _ _ _ HTk.out HWV.out HV.out HKT.out (HM1.out.trans ((Gr.refl _).alloc _).mle)).mono ?_; rintro e w2 ⟨he, g2⟩; rw [hp.out] at he; subst he)
          go_ret
          exact InC.yes (HI.out.2 (.inr ⟨k, hlt, hpk⟩)) ((HGR.out.alloc _).trans g2)
        · have hp := Lib.hid (inT_false hpk)
          go_wp2_with (go_at_call 15; refine (HIN.out _ m _ _ _ _ _ _ _ _ _ _ _ _ _ _ _ _ _ _ _ HTk.out HWV.out HV.out HKT.out (HM1.out.trans ((Gr.refl _).alloc _).mle)).mono ?_; rintro e w2 ⟨he, g2⟩; rw [hp.out] at he; subst he)
          go_roundw
          case rel =>
            refine ⟨k + 1, by omega, by go_num, (g2.block (lt_blk (al_old HX.out))).trans (al_old HX.out), (g2.block (lt_blk (al_old HY.out))).trans (al_old HY.out), (HGR.out.alloc _).trans g2, ?_⟩
            intro j hj hjk
            by_cases e : j = k
            · subst e; exact hpk
            · exact hI.out.2.2.2 j hj (by omega)
          case measure => simp [intOf]; omega
      · have HQ : Hid (¬ InP t v) := Lib.hid (fun h => by
          rcases HI.out.1 h with h | ⟨i, h, h2⟩
          · omega
          · exact hI.out.2.2.2 i h (by omega) h2)
        go_wp2
        go_ret
        exact InC.no HQ.out HGR.out

set_option maxHeartbeats 2000000 in
set_option maxRecDepth 100000 in
theorem in_0 {kd : Int} (hk : ¬ (1 ≤ kd ∧ kd ≤ 6) ∧ kd ≠ 8) (h10 : kd ≠ 10) (ht : t.kind = kd) {nk n1 n2 nkv n1v : Nat} {tx : ByteArray} {kv : Int} : 
    Calls Tryz.prog 15 #[.agg #[.int .i64 kv, .string tx, .slice akv nkv ckv, .slice a1v n1v c1v], .agg #[.int .i64 kd, .slice ak nk ck, .slice a1 n1 c1, .slice a2 n2 c2]] w (InC t v w) := by
  have HI := Lib.hid (inP_none (v := v) (ht ▸ hk))
  clear ht
  have f1 : (kd == 1) = false := by rw [beq_eq_false_iff_ne]; omega
  have f2 : (kd == 2) = false := by rw [beq_eq_false_iff_ne]; omega
  have f3 : (kd == 3) = false := by rw [beq_eq_false_iff_ne]; omega
  have f4 : (kd == 4) = false := by rw [beq_eq_false_iff_ne]; omega
  have f5 : (kd == 5) = false := by rw [beq_eq_false_iff_ne]; omega
  have f6 : (kd == 6) = false := by rw [beq_eq_false_iff_ne]; omega
  have f8 : (kd == 8) = false := by rw [beq_eq_false_iff_ne]; omega
  have f10 : (kd == 10) = false := by rw [beq_eq_false_iff_ne]; omega
  clear hk h10
  go_enter Tryz.func15, Tryz.ntmps15
  go_wp2
  go_ret
  exact InC.no HI.out (((Gr.refl _).alloc _).alloc _)
end

theorem in_n (n : Nat) : ∀ t, SizeOf.sizeOf t < n → InOk t := by
  induction n with
  | zero => intro t h; exact absurd h (Nat.not_lt_zero _)
  | succ n ih =>
    intro t hn v m kv tx akv nkv ckv a1v n1v c1v kd ak nk ck a1 n1 c1 a2 n2 c2 w hwt hwv hv ht hm
    have IH := Lib.hid (fun d (hd : SizeOf.sizeOf d < SizeOf.sizeOf t) => ih d (by omega))
    obtain ⟨e1, e2, e3, e4, _, _, rkv, r1v⟩ := hv.open
    obtain ⟨g1, g2, g3, g4, _, l1, _, rk, r1, r2⟩ := ht.open
    by_cases h5 : kd = 5
    · exact in_5 h5 g1.symm e1.symm (Lib.hid fun W hW => items_any IH hwt hwv hv (h5 ▸ ht) (hm.trans hW))
    by_cases h6 : kd = 6
    · exact in_6 h6 g1.symm e1.symm (Lib.hid fun W hW => props_any IH hwt hwv hv (h6 ▸ ht) (hm.trans hW))
    subst e1 e2 e3 e4
    by_cases h8 : kd = 8
    · subst g2 g3 g4
      exact in_8 h8 g1.symm hwv hwt IH hv r1 l1 hm
    by_cases h1 : kd = 1
    · exact in_1 h1 g1.symm
    by_cases h2 : kd = 2
    · exact in_2 h2 g1.symm
    by_cases h3 : kd = 3
    · exact in_3 h3 g1.symm
    by_cases h4 : kd = 4
    · exact in_4 h4 g1.symm
    exact in_0 (by omega) (g1 ▸ hwt.out.1) g1.symm

theorem in_any (t : ST) : InOk t := in_n _ t (Nat.lt_succ_self _)
end Go.Proofs.YtaglgokeejjagaaGreat
namespace Go.Proofs.YtaglgokeejjagaaGreat
set_option linter.unusedVariables false
set_option linter.unusedSimpArgs false
open Go.RowKit Go.Sort

/-- What 'Deep' tells that says no. -/
def DpQ (a b : ST) (w : World) (e : Ending) (w' : World) : Prop := ∃ r, e = .returned (.bool r) ∧ (r = false → ∀ i (h : i < a.keys.length) j (g : j < b.keys.length), a.keys[i] ≠ b.keys[j]) ∧ Below w.heap.size w w'
set_option maxHeartbeats 4000000 in
set_option maxRecDepth 100000 in
theorem deep_any {a b : ST} {m : Mem} {kd : Int} {ak a1 a2 : Option Addr} {nk ck n1 c1 n2 c2 : Nat} {kd' : Int} {ak' a1' a2' : Option Addr} {nk' ck' n1' c1' n2' c2' : Nat} {w : World} (ha : MST m (stCells kd ak nk ck a1 n1 c1 a2 n2 c2) a) (hb : MST m (stCells kd' ak' nk' ck' a1' n1' c1' a2' n2' c2') b) (hm : MLe m w.cell?) :
    Calls Tryz.prog 27 #[.agg #[.int .i64 kd, .slice ak nk ck, .slice a1 n1 c1, .slice a2 n2 c2], .agg #[.int .i64 kd', .slice ak' nk' ck', .slice a1' n1' c1', .slice a2' n2' c2']] w (DpQ a b w) := by
  obtain ⟨rfl, rfl, rfl, rfl, ⟨lk1, lk2⟩, ⟨l11, l12⟩, ⟨l21, l22⟩, rk, _, _⟩ := ha.open
  obtain ⟨rfl, rfl, rfl, rfl, ⟨lk1', lk2'⟩, ⟨l11', l12'⟩, ⟨l21', l22'⟩, rk', _, _⟩ := hb.open
  have HK := Lib.hid rk
  have HK' := Lib.hid rk'
  have HM := Lib.hid hm
  clear rk rk' hm ha hb
  go_enter Tryz.func27, Tryz.ntmps27
  go_wp2
  go_loopw [6, 8, 12] (fun _ _ i wr => ∃ k : Nat, k ≤ a.keys.length ∧ i = .int .i64 k ∧ Hid (wr.heap[w.heap.size]? = some (.cells #[.int .i64 a.kind, .slice ak a.keys.length ck, .slice a1 a.kids.length c1, .slice a2 a.more.length c2] 42 (0, 0)) ∧ wr.heap[w.heap.size + 1]? = some (.cells #[.int .i64 b.kind, .slice ak' b.keys.length ck', .slice a1' b.kids.length c1', .slice a2' b.more.length c2'] 42 (0, 0)) ∧ Below w.heap.size w wr ∧ (∀ i (h : i < a.keys.length), i < k → ∀ j (g : j < b.keys.length), a.keys[i] ≠ b.keys[j]))) (fun _ _ i _ => a.keys.length - (intOf i).toNat)
  case atStart =>
    refine ⟨0, Nat.zero_le _, rfl, al_old (al_new rfl), al_new (by simp), ?_, fun i h g => absurd g (Nat.not_lt_zero _)⟩
    repeat (first | exact Below.refl _ _ | refine Below.alloc ?_ (by simp; try omega) _)
  case round =>
    obtain ⟨k, hk, rfl, hI⟩ := hrel
    by_cases hlt : k < a.keys.length
    · obtain ⟨y0, y1, y2, y3⟩ := cells4 hI.out.2.1
      have hsz := lt_blk hI.out.2.1
      obtain ⟨kb, off, rfl, e0, e1⟩ := HK.out.at hlt
      have hm1 := HM.out.trans (mle_below hI.out.2.2.1)
      replace e0 := hm1 _ _ e0
      replace e1 := hm1 _ _ e1
      obtain ⟨kk, kt, hkt⟩ : ∃ kd tx, a.keys[k] = ⟨kd, tx⟩ := ⟨_, _, rfl⟩
      rw [hkt] at e0 e1
      have HKT := Lib.hid hkt
      clear hkt hm1
      go_wp2
      go_loopw [8, 19] (fun _ j w2 => ∃ l : Nat, l ≤ b.keys.length ∧ j = .int .i64 l ∧ Hid (w2.heap[w.heap.size]? = some (.cells #[.int .i64 a.kind, .slice (some ⟨kb, off, none⟩) a.keys.length ck, .slice a1 a.kids.length c1, .slice a2 a.more.length c2] 42 (0, 0)) ∧ w2.heap[w.heap.size + 1]? = some (.cells #[.int .i64 b.kind, .slice ak' b.keys.length ck', .slice a1' b.kids.length c1', .slice a2' b.more.length c2'] 42 (0, 0)) ∧ w2.heap[wr.heap.size]? = some (.cells #[.int .i64 kk, .string kt] 85 (0, 0)) ∧ Below w.heap.size w w2 ∧ (∀ j (g : j < b.keys.length), j < l → a.keys[k] ≠ b.keys[j]))) (fun _ j _ => b.keys.length - (intOf j).toNat)
      case atStart => exact ⟨0, Nat.zero_le _, rfl, al_old hI.out.1, al_old hI.out.2.1, al_new rfl, bl_alloc hI.out.2.2.1 _, fun j h g => absurd g (Nat.not_lt_zero _)⟩
      case round =>
        obtain ⟨l, hl, rfl, hJ⟩ := hrel
        by_cases hll : l < b.keys.length
        · obtain ⟨v0, v1⟩ := cells2 hJ.out.2.2.1
          have hv := lt_blk hJ.out.2.2.1
          obtain ⟨kb', off', rfl, f0, f1⟩ := HK'.out.at hll
          have hm1 := HM.out.trans (mle_below hJ.out.2.2.2.1)
          replace f0 := hm1 _ _ f0
          replace f1 := hm1 _ _ f1
          obtain ⟨kj, tj, hkj⟩ : ∃ kd tx, b.keys[l] = ⟨kd, tx⟩ := ⟨_, _, rfl⟩
          rw [hkj] at f0 f1
          have HKJ := Lib.hid hkj
          clear hkj hm1
          by_cases h1 : kk = kj
          · subst h1
            by_cases h2 : (kt.toList == tj.toList) = true
            · go_wp2
              go_ret
              exact ⟨_, rfl, (fun h => by cases h), bl_alloc hJ.out.2.2.2.1 _⟩
            · have h2b : (kt.toList == tj.toList) = false := by simpa using h2
              have HNE := Lib.hid (show (⟨kk, kt⟩ : Ky) ≠ ⟨kk, tj⟩ from fun e => h2 (by injection e with e3 e4; rw [e4]; simp))
              clear h2
              go_wp2
              go_roundw
              case rel =>
                refine ⟨l + 1, by omega, by go_num, al_old hJ.out.1, al_old hJ.out.2.1, al_old hJ.out.2.2.1, bl_alloc hJ.out.2.2.2.1 _, fun j' h hj' => ?_⟩
                by_cases e : j' < l
                · exact hJ.out.2.2.2.2 j' h e
                · obtain rfl : j' = l := by omega
                  rw [HKJ.out, HKT.out]
                  exact HNE.out
              case measure => simp [intOf]; omega
          · have h1b : (kk == kj) = false := by simpa using h1
            have HNE := Lib.hid (show (⟨kk, kt⟩ : Ky) ≠ ⟨kj, tj⟩ from fun e => h1 (by injection e with e3 e4))
            clear h1
            go_wp2
            go_roundw
            case rel =>
              refine ⟨l + 1, by omega, by go_num, al_old hJ.out.1, al_old hJ.out.2.1, al_old hJ.out.2.2.1, bl_alloc hJ.out.2.2.2.1 _, fun j' h hj' => ?_⟩
              by_cases e : j' < l
              · exact hJ.out.2.2.2.2 j' h e
              · obtain rfl : j' = l := by omega
                rw [HKJ.out, HKT.out]
                exact HNE.out
            case measure => simp [intOf]; omega
        · obtain rfl : l = b.keys.length := by omega
          go_wp2
          go_roundw
          case rel => exact ⟨k + 1, by omega, by go_num, hJ.out.1, hJ.out.2.1, hJ.out.2.2.2.1, fun i h hi => by
            by_cases e : i < k
            · exact hI.out.2.2.2 i h e
            · obtain rfl : i = k := by omega
              exact fun j g => hJ.out.2.2.2.2 j g g⟩
          case measure => simp [intOf]; omega
    · obtain rfl : k = a.keys.length := by omega
      go_wp2
      go_ret
      exact ⟨_, rfl, fun _ i h j g => hI.out.2.2.2 i h h j g, hI.out.2.2.1⟩

def StIs (r : Bool) (w : World) (e : Ending) (w' : World) : Prop := ∃ kd ak nk ck a1 n1 c1 a2 n2 c2, e = .returned (.tuple #[.agg #[.int .i64 kd, .slice ak nk ck, .slice a1 n1 c1, .slice a2 n2 c2], .bool r]) ∧ Below w.heap.size w w'
theorem static_is {t : ST} {m : Mem} {kd : Int} {ak a1 a2 : Option Addr} {nk ck n1 c1 n2 c2 : Nat} {key : ByteArray} {w : World} (hv : MST m (stCells kd ak nk ck a1 n1 c1 a2 n2 c2) t) (hm : MLe m w.cell?) (hl : t.keys.length ≤ t.kids.length) :
    Calls Tryz.prog 50 #[.agg #[.int .i64 kd, .slice ak nk ck, .slice a1 n1 c1, .slice a2 n2 c2], .string key] w (StIs (stat t.keys key).isSome w) := by
  cases hs : stat t.keys key with
  | none => exact (static_none hv hm hs).mono fun e w' ⟨h1, h2⟩ => ⟨_, _, _, _, _, _, _, _, _, _, h1, h2.below⟩
  | some j => exact (static_some hv hm hs (Nat.lt_of_lt_of_le (stat_lt hs) hl)).mono fun e w' ⟨_, _, _, _, _, _, _, _, _, _, h1, _, h2⟩ => ⟨_, _, _, _, _, _, _, _, _, _, h1, h2.below⟩
/-- What 'Dynamic' tells that says no. -/
def DyQ (v : Vl) (a b : ST) (w : World) (e : Ending) (w' : World) : Prop := ∃ r, e = .returned (.bool r) ∧ (r = false → ∀ i (h : i < v.keys.length), (stat a.keys v.keys[i]).isSome = true → (stat b.keys v.keys[i]).isSome = true) ∧ Below w.heap.size w w'
set_option maxHeartbeats 4000000 in
set_option maxRecDepth 100000 in
theorem dynamic_any {v : Vl} {a b : ST} {m : Mem} {kv : Int} {tx : ByteArray} {akv a1v : Option Addr} {nkv ckv n1v c1v : Nat} {kd : Int} {ak a1 a2 : Option Addr} {nk ck n1 c1 n2 c2 : Nat} {kd' : Int} {ak' a1' a2' : Option Addr} {nk' ck' n1' c1' n2' c2' : Nat} {w : World} (hv : MV m (vlCells kv tx akv nkv ckv a1v n1v c1v) v) (ha : MST m (stCells kd ak nk ck a1 n1 c1 a2 n2 c2) a) (hb : MST m (stCells kd' ak' nk' ck' a1' n1' c1' a2' n2' c2') b) (hla : a.keys.length ≤ a.kids.length) (hlb : b.keys.length ≤ b.kids.length) (hm : MLe m w.cell?) :
    Calls Tryz.prog 26 #[.agg #[.int .i64 kv, .string tx, .slice akv nkv ckv, .slice a1v n1v c1v], .agg #[.int .i64 kd, .slice ak nk ck, .slice a1 n1 c1, .slice a2 n2 c2], .agg #[.int .i64 kd', .slice ak' nk' ck', .slice a1' n1' c1', .slice a2' n2' c2']] w (DyQ v a b w) := by
  obtain ⟨rfl, rfl, rfl, rfl, ⟨lk1, lk2⟩, ⟨l11, l12⟩, rk, _⟩ := hv.open
  have HA := Lib.hid (fun (W : World) (key : ByteArray) (hW : MLe m W.cell?) => show Calls Tryz.prog 50 #[.agg #[.int .i64 kd, .slice ak nk ck, .slice a1 n1 c1, .slice a2 n2 c2], .string key] W (StIs (stat a.keys key).isSome W) from static_is ha hW hla)
  have HB := Lib.hid (fun (W : World) (key : ByteArray) (hW : MLe m W.cell?) => show Calls Tryz.prog 50 #[.agg #[.int .i64 kd', .slice ak' nk' ck', .slice a1' n1' c1', .slice a2' n2' c2'], .string key] W (StIs (stat b.keys key).isSome W) from static_is hb hW hlb)
  have HK := Lib.hid rk
  have HM := Lib.hid hm
  clear rk hm ha hb hv hla hlb
  go_enter Tryz.func26, Tryz.ntmps26
  go_wp2
  go_loopw [8, 9, 10, 11, 12, 16] (fun _ _ _ _ _ i wr => ∃ k : Nat, k ≤ v.keys.length ∧ i = .int .i64 k ∧ Hid (wr.heap[w.heap.size + 1]? = some (.cells #[.int .i64 kd, .slice ak nk ck, .slice a1 n1 c1, .slice a2 n2 c2] 42 (0, 0)) ∧ wr.heap[w.heap.size + 1 + 1]? = some (.cells #[.int .i64 kd', .slice ak' nk' ck', .slice a1' n1' c1', .slice a2' n2' c2'] 42 (0, 0)) ∧ Below w.heap.size w wr ∧ (∀ i (h : i < v.keys.length), i < k → (stat a.keys v.keys[i]).isSome = true → (stat b.keys v.keys[i]).isSome = true))) (fun _ _ _ _ _ i _ => v.keys.length - (intOf i).toNat)
  case atStart =>
    refine ⟨0, Nat.zero_le _, rfl, al_old (al_new (by simp)), al_new (by simp), ?_, fun i h g => absurd g (Nat.not_lt_zero _)⟩
    repeat (first | exact Below.refl _ _ | refine Below.alloc ?_ (by simp; try omega) _)
  case round =>
    obtain ⟨k, hk, rfl, hI⟩ := hrel
    by_cases hlt : k < v.keys.length
    · obtain ⟨x0, x1, x2, x3⟩ := cells4 hI.out.1
      have hsz := lt_blk hI.out.2.1
      obtain ⟨kb, off, rfl, e0⟩ := HK.out.at hlt
      replace e0 := HM.out.trans (mle_below hI.out.2.2.1) _ _ e0
      have HSA := Lib.hid (fun (W : World) (hW : MLe m W.cell?) => HA.out W v.keys[k] hW)
      have HSB := Lib.hid (fun (W : World) (hW : MLe m W.cell?) => HB.out W v.keys[k] hW)
      obtain ⟨key, hkey⟩ : ∃ key, v.keys[k] = key := ⟨_, rfl⟩
      have HKE := Lib.hid hkey
      rw [hkey] at e0 HSA HSB
      obtain ⟨ra, hra⟩ : ∃ r, (stat a.keys key).isSome = r := ⟨_, rfl⟩
      obtain ⟨rb, hrb⟩ : ∃ r, (stat b.keys key).isSome = r := ⟨_, rfl⟩
      have HRA := Lib.hid hra
      have HRB := Lib.hid hrb
      rw [hra] at HSA
      rw [hrb] at HSB
      clear hkey hra hrb
      go_wp2_with (first
        | (fail_if_success (have h := HB2)
           go_at_call 50; refine (HSA.out _ (HM.out.trans (mle_below hI.out.2.2.1))).mono ?_; rintro e w2 ⟨kd2, ak2, nk2, ck2, a12, n12, c12, a22, n22, c22, rfl, hb2⟩
           have HB2 := Lib.hid (bl_trans hI.out.2.2.1 hb2)
           have HX2 := Lib.hid (bl_heap hb2 hI.out.1)
           have HY2 := Lib.hid (bl_heap hb2 hI.out.2.1)
           obtain ⟨y0, y1, y2, y3⟩ := cells4 HY2.out
           have hsz2 := lt_blk HY2.out
           clear hb2)
        | (fail_if_success (have h := HB3)
           go_at_call 50; refine (HSB.out _ (HM.out.trans (mle_below (bl_alloc HB2.out _)))).mono ?_; rintro e w3 ⟨kd3, ak3, nk3, ck3, a13, n13, c13, a23, n23, c23, rfl, hb3⟩
           have HB3 := Lib.hid (bl_trans (bl_alloc HB2.out _) hb3)
           have HX3 := Lib.hid (bl_heap hb3 (al_old HX2.out))
           have HY3 := Lib.hid (bl_heap hb3 (al_old HY2.out))
           clear hb3
           cases ra <;> cases rb))
      any_goals
        go_ret
        exact ⟨_, rfl, (fun h => by cases h), bl_alloc HB3.out _⟩
      all_goals
        go_roundw
        case rel =>
          refine ⟨k + 1, by omega, by go_num, al_old HX3.out, al_old HY3.out, bl_alloc HB3.out _, fun i h hi => ?_⟩
          by_cases e : i < k
          · exact hI.out.2.2.2 i h e
          · obtain rfl : i = k := by omega
            rw [HKE.out, HRA.out, HRB.out]
            simp
        case measure => simp [intOf]; omega
    · obtain rfl : k = v.keys.length := by omega
      go_wp2
      go_ret
      exact ⟨_, rfl, fun _ i h => hI.out.2.2.2 i h h, hI.out.2.2.1⟩
end Go.Proofs.YtaglgokeejjagaaGreat
