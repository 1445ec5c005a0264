/- 'static': the place of a static property. -/
import Derived.Test.YtaglgokeejjagaaGreatOwn
import Derived.Test.YtaglgokeejjagaaGreatPureIn
namespace Go.Proofs.YtaglgokeejjagaaGreat
set_option linter.unusedVariables false
set_option linter.unusedSimpArgs false
open Go.RowKit Go.Sort

def StSome (k : ST) (m : Mem) (w : World) (e : Ending) (w' : World) : Prop := ∃ kd ak nk ck a1 n1 c1 a2 n2 c2, e = .returned (.tuple #[.agg #[.int .i64 kd, .slice ak nk ck, .slice a1 n1 c1, .slice a2 n2 c2], .bool true]) ∧ MST m (stCells kd ak nk ck a1 n1 c1 a2 n2 c2) k ∧ Gr w w'
def StNone (w : World) (e : Ending) (w' : World) : Prop := e = .returned (.tuple #[.agg #[.int .i64 0, .slice none 0 0, .slice none 0 0, .slice none 0 0], .bool false]) ∧ Gr w w'

set_option maxHeartbeats 2000000 in
set_option maxRecDepth 100000 in
theorem static_some {t : ST} {m : Mem} {kd : Int} {ak a1 a2 : Option Addr} {nk ck n1 c1 n2 c2 : Nat} {key : ByteArray} {w : World} (hv : MST m (stCells kd ak nk ck a1 n1 c1 a2 n2 c2) t) (hm : MLe m w.cell?) {j : Nat} (hs : stat t.keys key = some j) (hj : j < t.kids.length) :
    Calls Tryz.prog 50 #[.agg #[.int .i64 kd, .slice ak nk ck, .slice a1 n1 c1, .slice a2 n2 c2], .string key] w (StSome t.kids[j] m w) := by
  obtain ⟨rfl, rfl, rfl, rfl, ⟨lk1, lk2⟩, ⟨l11, l12⟩, ⟨l21, l22⟩, rk, r1, _⟩ := hv.open
  have HK := Lib.hid rk
  have H1 := Lib.hid r1
  have HM := Lib.hid hm
  have HS := Lib.hid hs
  clear rk r1 hm hs hv
  go_enter Tryz.func50, Tryz.ntmps50
  go_wp2
  go_loopw [6, 7, 11] (fun _ _ i wr => ∃ k : Nat, k ≤ t.keys.length ∧ k ≤ j ∧ i = .int .i64 k ∧ Hid (
    wr.heap[w.heap.size]? = some (.cells #[.int .i64 t.kind, .slice ak t.keys.length ck, .slice a1 t.kids.length c1, .slice a2 t.more.length c2] 42 (0, 0)) ∧
    wr.heap[w.heap.size + 1]? = some (.cells #[.int .i64 0, .slice none 0 0, .slice none 0 0, .slice none 0 0] 42 (0, 0)) ∧ Gr w wr)) (fun _ _ i _ => t.keys.length - (intOf i).toNat)
  case atStart => exact ⟨0, Nat.zero_le _, Nat.zero_le _, rfl, al_old (al_new rfl), al_new (by simp), ((Gr.refl _).alloc _).alloc _⟩
  case round =>
    obtain ⟨k, hk, hkj, rfl, hI⟩ := hrel
    have hjl := stat_lt HS.out
    have hlt : k < t.keys.length := by omega
    have hm1 := HM.out.trans hI.out.2.2.mle
    obtain ⟨b, off, rfl, e0, e1⟩ := HK.out.at hlt
    replace e0 := hm1 _ _ e0
    replace e1 := hm1 _ _ e1
    obtain ⟨x0, x1, x2, x3⟩ := cells4 hI.out.1
    have hbo : w.heap.size + 1 < wr.heap.size := lt_blk hI.out.2.1
    have hb0 : w.heap.size < wr.heap.size := by omega
    by_cases hkk : k = j
    · subst hkk
      have ht := stat_at HS.out
      simp only [sKey, Bool.and_eq_true] at ht
      obtain ⟨ht1, ht2⟩ := ht
      have ht1' : t.keys[k].kind = 4 := by simpa using ht1
      obtain ⟨b', off', kd', ak', nk, ck', a1', n1, c1', a2', n2, c2', rfl, g0, g1, g2, g3, hkv⟩ := H1.out.at hj
      replace g0 := hm1 _ _ g0
      replace g1 := hm1 _ _ g1
      replace g2 := hm1 _ _ g2
      replace g3 := hm1 _ _ g3
      obtain ⟨r0, r1, r2, r3⟩ := cells4 hI.out.2.1
      have rf := froz_blk hI.out.2.1
      have hbb : b' < wr.heap.size := World.block_lt_of_cell? _ _ g0
      have HKV := Lib.hid hkv
      have HG := Lib.hid hI.out.2.2
      rw [ht1'] at e0
      clear hkv hm1 hI ht1 ht1' 
      go_wp2
      refine bodyPost_ret (v := .tuple #[.agg #[.int .i64 kd', .slice ak' nk ck', .slice a1' n1 c1', .slice a2' n2 c2'], .bool true]) (by simp [results, Tryz.results50, go_sem, r0, r1, r2, r3, hbo, rf]) rfl ⟨_, _, _, _, _, _, _, _, _, _, rfl, HKV.out, ?_⟩
      have hle : w.heap.size ≤ w.heap.size + 1 := by omega
      repeat (first | exact HG.out | refine Gr.alloc ?_ _ | refine Gr.setCell ?_ (by simp; try omega) _)
    · have ht := stat_first HS.out k (by omega)
      simp only [sKey, Bool.and_eq_false_iff] at ht
      have HI := hI
      clear hm1 hI
      by_cases h4 : (t.keys[k].kind == 4) = true
      · have ht2 : (t.keys[k].text.toList == key.toList) = false := by rcases ht with h | h; rw [h4] at h; cases h; exact h
        clear ht
        go_wp2
        go_roundw
        case rel => exact ⟨k + 1, by omega, by omega, by go_num, al_old HI.out.1, al_old HI.out.2.1, HI.out.2.2.alloc _⟩
        case measure => simp [intOf]; omega
      · have h4' : (t.keys[k].kind == 4) = false := by simpa using h4
        clear h4 ht
        go_wp2
        go_roundw
        case rel => exact ⟨k + 1, by omega, by omega, by go_num, al_old HI.out.1, al_old HI.out.2.1, HI.out.2.2.alloc _⟩
        case measure => simp [intOf]; omega

set_option maxHeartbeats 2000000 in
set_option maxRecDepth 100000 in
theorem static_none {t : ST} {m : Mem} {kd : Int} {ak a1 a2 : Option Addr} {nk ck n1 c1 n2 c2 : Nat} {key : ByteArray} {w : World} (hv : MST m (stCells kd ak nk ck a1 n1 c1 a2 n2 c2) t) (hm : MLe m w.cell?) (hs : stat t.keys key = none) :
    Calls Tryz.prog 50 #[.agg #[.int .i64 kd, .slice ak nk ck, .slice a1 n1 c1, .slice a2 n2 c2], .string key] w (StNone w) := by
  obtain ⟨rfl, rfl, rfl, rfl, ⟨lk1, lk2⟩, ⟨l11, l12⟩, ⟨l21, l22⟩, rk, r1, _⟩ := hv.open
  have HK := Lib.hid rk
  have HM := Lib.hid hm
  have HS := Lib.hid hs
  clear rk r1 hm hs hv
  go_enter Tryz.func50, Tryz.ntmps50
  go_wp2
  go_loopw [6, 7, 11] (fun _ _ i wr => ∃ k : Nat, k ≤ t.keys.length ∧ i = .int .i64 k ∧ Hid (
    wr.heap[w.heap.size]? = some (.cells #[.int .i64 t.kind, .slice ak t.keys.length ck, .slice a1 t.kids.length c1, .slice a2 t.more.length c2] 42 (0, 0)) ∧
    wr.heap[w.heap.size + 1]? = some (.cells #[.int .i64 0, .slice none 0 0, .slice none 0 0, .slice none 0 0] 42 (0, 0)) ∧ Gr w wr)) (fun _ _ i _ => t.keys.length - (intOf i).toNat)
  case atStart => exact ⟨0, Nat.zero_le _, rfl, al_old (al_new rfl), al_new (by simp), ((Gr.refl _).alloc _).alloc _⟩
  case round =>
    obtain ⟨k, hk, rfl, hI⟩ := hrel
    have hm1 := HM.out.trans hI.out.2.2.mle
    obtain ⟨x0, x1, x2, x3⟩ := cells4 hI.out.1
    have hbo : w.heap.size + 1 < wr.heap.size := lt_blk hI.out.2.1
    have hb0 : w.heap.size < wr.heap.size := by omega
    by_cases hlt : k < t.keys.length
    · obtain ⟨b, off, rfl, e0, e1⟩ := HK.out.at hlt
      replace e0 := hm1 _ _ e0
      replace e1 := hm1 _ _ e1
      have ht := stat_none HS.out k hlt
      simp only [sKey, Bool.and_eq_false_iff] at ht
      have HI := hI
      clear hm1 hI
      by_cases h4 : (t.keys[k].kind == 4) = true
      · have ht2 : (t.keys[k].text.toList == key.toList) = false := by rcases ht with h | h; rw [h4] at h; cases h; exact h
        clear ht
        go_wp2
        go_roundw
        case rel => exact ⟨k + 1, by omega, by go_num, al_old HI.out.1, al_old HI.out.2.1, HI.out.2.2.alloc _⟩
        case measure => simp [intOf]; omega
      · have h4' : (t.keys[k].kind == 4) = false := by simpa using h4
        clear h4 ht
        go_wp2
        go_roundw
        case rel => exact ⟨k + 1, by omega, by go_num, al_old HI.out.1, al_old HI.out.2.1, HI.out.2.2.alloc _⟩
        case measure => simp [intOf]; omega
    · obtain ⟨r0, r1, r2, r3⟩ := cells4 hI.out.2.1
      have rf := froz_blk hI.out.2.1
      have HG := Lib.hid hI.out.2.2
      clear hm1 hI
      go_wp2
      refine bodyPost_ret (v := .tuple #[.agg #[.int .i64 0, .slice none 0 0, .slice none 0 0, .slice none 0 0], .bool false]) (by simp [results, Tryz.results50, go_sem, r0, r1, r2, r3, hbo, rf]) rfl ⟨rfl, ?_⟩
      have hle : w.heap.size ≤ w.heap.size + 1 := by omega
      exact ((((HG.out.setCell hle _).setCell hle _).setCell hle _).setCell hle _)
end Go.Proofs.YtaglgokeejjagaaGreat
