/- Proved: 'value', 'kind' and 'given' answer valOf, kindOf and givenOf. Conditions: what they are given lies in memory as MV and MIT say, within BdV and BdI. -/
import Derived.Test.YtaglgokeejjagaaGreatRoom
import Derived.Test.YtaglgokeejjagaaGreatCopyV
import Derived.Test.YtaglgokeejjagaaGreatCopied
namespace Go.Proofs.YtaglgokeejjagaaGreat
set_option linter.unusedVariables false
set_option linter.unusedSimpArgs false
open Go.RowKit Go.Sort

def badV : Vl := .mk (-1) ⟨#[]⟩ [] []
def badS : ST := .mk (-1) [] [] []
/-- A value of the reference. -/
def valOf (t : Vl) : Vl := if WV t ≤ 5000 then t else badV
/-- A type of the reference. -/
def kindOf (t : IT) : ST := if WI t ≤ 5000 then toS t else badS
/-- A type that the package gives. -/
def givenOf (t : IT) : ST := if WI t ≤ 1000000 then toS t else badS

theorem rowS_nil (m : Mem) : RowS m none [] := fun h => absurd h (by simp)
theorem rowK_nil (m : Mem) : RowK m none [] := fun h => absurd h (by simp)
theorem rowV_nil (m : Mem) : RowV m none [] := ⟨fun _ => [], fun h => absurd h (by simp), fun i h => absurd h (by simp)⟩
theorem rowST_nil (m : Mem) : RowST m none [] := ⟨fun _ => [], fun h => absurd h (by simp), fun i h => absurd h (by simp)⟩
theorem lenOk_nil : lenOk 0 0 := ⟨Nat.le_refl _, by omega⟩
theorem mv_bad (m : Mem) : MV m (vlCells (-1) ⟨#[]⟩ none 0 0 none 0 0) badV := MV.close (ks := []) (kids := []) lenOk_nil lenOk_nil (rowS_nil m) (rowV_nil m)
theorem mst_bad (m : Mem) : MST m (stCells (-1) none 0 0 none 0 0 none 0 0) badS := MST.close (ks := []) (kids := []) (more := []) lenOk_nil lenOk_nil lenOk_nil (rowK_nil m) (rowST_nil m) (rowST_nil m)

set_option maxHeartbeats 1000000 in
set_option maxRecDepth 100000 in
theorem value_any (t : Vl) (m : Mem) (kd : Int) (tx : ByteArray) (ak : Option Addr) (nk ck : Nat) (a1 : Option Addr) (n1 c1 : Nat) (w : World) (hb : BdV t) (hv : MV m (vlCells kd tx ak nk ck a1 n1 c1) t) (hm : MLe m w.cell?) :
    Calls Tryz.prog 14 #[.agg #[.int .i64 kd, .string tx, .slice ak nk ck, .slice a1 n1 c1]] w (CpV (valOf t) m w) := by
  have HB := Lib.hid hb
  have HV := Lib.hid hv
  have HM := Lib.hid hm
  have HLO := Lib.hid (lo_of_mle hm)
  clear hb hv hm
  go_enter Tryz.func14, Tryz.ntmps14
  go_wp2_with fail
  refine (spacious_any (SizeOf.sizeOf t + 1) t m _ _ _ _ _ _ _ _ (w.heap.size + 1 + 1) 5000 _ (Nat.lt_succ_self _) HB.out HV.out (mle_alloc (mle_alloc (mle_alloc HM.out _) _) _) (av_lo HLO.out (by omega)) (by omega) (by omega) (al_new (by simp))).mono ?_
  rintro e w1 ⟨L', hs, rfl, hk, hp⟩
  have hX := hk.heap (k := w.heap.size) (al_old (al_old (al_new (o := .cells #[.int .i64 kd, .string tx, .slice ak nk ck, .slice a1 n1 c1] 29) rfl))) (by omega)
  have hR := hk.heap (k := w.heap.size + 1) (al_old (al_new (o := .cells #[.int .i64 0, .string ⟨#[]⟩, .slice none 0 0, .slice none 0 0] 36) (by simp))) (by omega)
  have hz := hk.size
  simp at hz
  obtain ⟨x0, x1, x2, x3⟩ := cells4 hX
  obtain ⟨r0, r1, r2, r3⟩ := cells4 hR
  have rf := froz_blk hR
  have hm1 : MLe m w1.cell? := hk.mle_lo (mle_alloc (mle_alloc (mle_alloc HM.out _) _) _) HLO.out (fun i hi => by omega)
  have hbl : Below w.heap.size w w1 := below_kp (bl_alloc (bl_alloc (bl_alloc (Below.refl _ _) _) _) _) hk (fun i hi => by omega)
  have HM1 := Lib.hid hm1
  have HBL := Lib.hid hbl
  have HRB := Lib.hid hR
  clear hX hR hk hp hm1 hbl
  by_cases h : WV t ≤ 5000
  · have h0 : 0 ≤ L' := by rcases hs with ⟨h1, _⟩ | ⟨_, _, h3⟩ <;> omega
    clear hs
    have h1 : decide (0 ≤ L') = true := by simp; omega
    go_wp2_with fail
    refine (copiedValue_any (SizeOf.sizeOf t + 1) t m _ _ _ _ _ _ _ _ _ (Nat.lt_succ_self _) h HV.out HM1.out).mono ?_
    rintro e w2 ⟨kd', tx', ak', nk', ck', a1', n1', c1', rfl, hmv, hb2⟩
    obtain ⟨r0', r1', r2', r3'⟩ := cells4 (bl_heap hb2 HRB.out)
    have rf' := froz_blk (bl_heap hb2 HRB.out)
    have HMV := Lib.hid hmv
    have HB2 := Lib.hid hb2
    have hz2 := hb2.size
    clear hmv hb2
    go_wp2
    refine bodyPost_ret (v := .agg #[.int .i64 kd', .string tx', .slice ak' nk' ck', .slice a1' n1' c1']) (by simp [results, Tryz.results14, go_sem, r0', r1', r2', r3']) rfl ?_
    unfold valOf
    rw [if_pos h]
    refine ⟨_, _, _, _, _, _, _, _, rfl, ?_, ?_⟩
    · refine HMV.out.mono (fr_lower HLO.out (by omega) fun k h1 h2 => ?_)
      repeat rw [Below.heap_setCell _ _ _ k (show k ≠ w.heap.size + 1 from by omega)]
    · have hle : w.heap.size ≤ w.heap.size + 1 := by omega
      exact ((((bl_trans HBL.out HB2.out).setCell hle _).setCell hle _).setCell hle _).setCell hle _
  · have h0 : L' < 0 := by rcases hs with ⟨h1, h2⟩ | ⟨h1, _, _⟩ <;> omega
    clear hs
    have h1 : decide (0 ≤ L') = false := by simp; omega
    go_wp2
    refine bodyPost_ret (v := .agg #[.int .i64 (-1), .string ⟨#[]⟩, .slice none 0 0, .slice none 0 0]) (by simp [results, Tryz.results14, go_sem, r0, r1, r2, r3]) rfl ?_
    unfold valOf
    rw [if_neg h]
    refine ⟨_, _, _, _, _, _, _, _, rfl, mv_bad _, ?_⟩
    have hle : w.heap.size ≤ w.heap.size + 1 := by omega
    exact (((HBL.out.setCell hle _).setCell hle _).setCell hle _).setCell hle _

set_option maxHeartbeats 1000000 in
set_option maxRecDepth 100000 in
theorem kind_any (t : IT) (m : Mem) (kd : Int) (nm tx : ByteArray) (ak : Option Addr) (nk ck : Nat) (a1 : Option Addr) (n1 c1 : Nat) (a2 : Option Addr) (n2 c2 : Nat) (w : World) (hb : BdI t) (hv : MIT m (itCells kd nm tx ak nk ck a1 n1 c1 a2 n2 c2) t) (hm : MLe m w.cell?) :
    Calls Tryz.prog 16 #[.agg #[.int .i64 kd, .string nm, .string tx, .slice ak nk ck, .slice a1 n1 c1, .slice a2 n2 c2]] w (CpT (kindOf t) m w) := by
  have HB := Lib.hid hb
  have HV := Lib.hid hv
  have HM := Lib.hid hm
  have HLO := Lib.hid (lo_of_mle hm)
  clear hb hv hm
  go_enter Tryz.func16, Tryz.ntmps16
  go_wp2_with fail
  refine (roomy_any (SizeOf.sizeOf t + 1) t m _ _ _ _ _ _ _ _ _ _ _ _ (w.heap.size + 1 + 1) 5000 _ (Nat.lt_succ_self _) HB.out HV.out (mle_alloc (mle_alloc (mle_alloc HM.out _) _) _) (av_lo HLO.out (by omega)) (by omega) (by omega) (al_new (by simp))).mono ?_
  rintro e w1 ⟨L', hs, rfl, hk, hp⟩
  have hX := hk.heap (k := w.heap.size) (al_old (al_old (al_new (o := .cells #[.int .i64 kd, .string nm, .string tx, .slice ak nk ck, .slice a1 n1 c1, .slice a2 n2 c2] 25) rfl))) (by omega)
  have hR := hk.heap (k := w.heap.size + 1) (al_old (al_new (o := .cells #[.int .i64 0, .slice none 0 0, .slice none 0 0, .slice none 0 0] 42) (by simp))) (by omega)
  have hz := hk.size
  simp at hz
  obtain ⟨x0, x1, x2, x3, x4, x5⟩ := cells6 hX
  obtain ⟨r0, r1, r2, r3⟩ := cells4 hR
  have rf := froz_blk hR
  have hm1 : MLe m w1.cell? := hk.mle_lo (mle_alloc (mle_alloc (mle_alloc HM.out _) _) _) HLO.out (fun i hi => by omega)
  have hbl : Below w.heap.size w w1 := below_kp (bl_alloc (bl_alloc (bl_alloc (Below.refl _ _) _) _) _) hk (fun i hi => by omega)
  have HM1 := Lib.hid hm1
  have HBL := Lib.hid hbl
  have HRB := Lib.hid hR
  clear hX hR hk hp hm1 hbl
  by_cases h : WI t ≤ 5000
  · have h0 : 0 ≤ L' := by rcases hs with ⟨h1, _⟩ | ⟨_, _, h3⟩ <;> omega
    clear hs
    have h1 : decide (0 ≤ L') = true := by simp; omega
    go_wp2_with fail
    refine (copied_any (SizeOf.sizeOf t + 1) t m _ _ _ _ _ _ _ _ _ _ _ _ _ (Nat.lt_succ_self _) (by omega) HV.out HM1.out).mono ?_
    rintro e w2 ⟨kd', ak', nk', ck', a1', n1', c1', a2', n2', c2', rfl, hmv, hb2⟩
    obtain ⟨r0', r1', r2', r3'⟩ := cells4 (bl_heap hb2 HRB.out)
    have rf' := froz_blk (bl_heap hb2 HRB.out)
    have HMV := Lib.hid hmv
    have HB2 := Lib.hid hb2
    have hz2 := hb2.size
    clear hmv hb2
    go_wp2
    refine bodyPost_ret (v := .agg #[.int .i64 kd', .slice ak' nk' ck', .slice a1' n1' c1', .slice a2' n2' c2']) (by simp [results, Tryz.results16, go_sem, r0', r1', r2', r3']) rfl ?_
    unfold kindOf
    rw [if_pos h]
    refine ⟨_, _, _, _, _, _, _, _, _, _, rfl, ?_, ?_⟩
    · refine HMV.out.mono (fr_lower HLO.out (by omega) fun k h1 h2 => ?_)
      repeat rw [Below.heap_setCell _ _ _ k (show k ≠ w.heap.size + 1 from by omega)]
    · have hle : w.heap.size ≤ w.heap.size + 1 := by omega
      exact ((((bl_trans HBL.out HB2.out).setCell hle _).setCell hle _).setCell hle _).setCell hle _
  · have h0 : L' < 0 := by rcases hs with ⟨h1, h2⟩ | ⟨h1, _, _⟩ <;> omega
    clear hs
    have h1 : decide (0 ≤ L') = false := by simp; omega
    go_wp2
    refine bodyPost_ret (v := .agg #[.int .i64 (-1), .slice none 0 0, .slice none 0 0, .slice none 0 0]) (by simp [results, Tryz.results16, go_sem, r0, r1, r2, r3]) rfl ?_
    unfold kindOf
    rw [if_neg h]
    refine ⟨_, _, _, _, _, _, _, _, _, _, rfl, mst_bad _, ?_⟩
    have hle : w.heap.size ≤ w.heap.size + 1 := by omega
    exact (((HBL.out.setCell hle _).setCell hle _).setCell hle _).setCell hle _

set_option maxHeartbeats 1000000 in
set_option maxRecDepth 100000 in
theorem given_any (t : IT) (m : Mem) (kd : Int) (nm tx : ByteArray) (ak : Option Addr) (nk ck : Nat) (a1 : Option Addr) (n1 c1 : Nat) (a2 : Option Addr) (n2 c2 : Nat) (w : World) (hb : BdI t) (hv : MIT m (itCells kd nm tx ak nk ck a1 n1 c1 a2 n2 c2) t) (hm : MLe m w.cell?) :
    Calls Tryz.prog 20 #[.agg #[.int .i64 kd, .string nm, .string tx, .slice ak nk ck, .slice a1 n1 c1, .slice a2 n2 c2]] w (CpT (givenOf t) m w) := by
  have HB := Lib.hid hb
  have HV := Lib.hid hv
  have HM := Lib.hid hm
  have HLO := Lib.hid (lo_of_mle hm)
  clear hb hv hm
  go_enter Tryz.func20, Tryz.ntmps20
  go_wp2_with fail
  refine (roomy_any (SizeOf.sizeOf t + 1) t m _ _ _ _ _ _ _ _ _ _ _ _ (w.heap.size + 1 + 1) 1000000 _ (Nat.lt_succ_self _) HB.out HV.out (mle_alloc (mle_alloc (mle_alloc HM.out _) _) _) (av_lo HLO.out (by omega)) (by omega) (by omega) (al_new (by simp))).mono ?_
  rintro e w1 ⟨L', hs, rfl, hk, hp⟩
  have hX := hk.heap (k := w.heap.size) (al_old (al_old (al_new (o := .cells #[.int .i64 kd, .string nm, .string tx, .slice ak nk ck, .slice a1 n1 c1, .slice a2 n2 c2] 25) rfl))) (by omega)
  have hR := hk.heap (k := w.heap.size + 1) (al_old (al_new (o := .cells #[.int .i64 0, .slice none 0 0, .slice none 0 0, .slice none 0 0] 42) (by simp))) (by omega)
  have hz := hk.size
  simp at hz
  obtain ⟨x0, x1, x2, x3, x4, x5⟩ := cells6 hX
  obtain ⟨r0, r1, r2, r3⟩ := cells4 hR
  have rf := froz_blk hR
  have hm1 : MLe m w1.cell? := hk.mle_lo (mle_alloc (mle_alloc (mle_alloc HM.out _) _) _) HLO.out (fun i hi => by omega)
  have hbl : Below w.heap.size w w1 := below_kp (bl_alloc (bl_alloc (bl_alloc (Below.refl _ _) _) _) _) hk (fun i hi => by omega)
  have HM1 := Lib.hid hm1
  have HBL := Lib.hid hbl
  have HRB := Lib.hid hR
  clear hX hR hk hp hm1 hbl
  by_cases h : WI t ≤ 1000000
  · have h0 : 0 ≤ L' := by rcases hs with ⟨h1, _⟩ | ⟨_, _, h3⟩ <;> omega
    clear hs
    have h1 : decide (0 ≤ L') = true := by simp; omega
    go_wp2_with fail
    refine (copied_any (SizeOf.sizeOf t + 1) t m _ _ _ _ _ _ _ _ _ _ _ _ _ (Nat.lt_succ_self _) h HV.out HM1.out).mono ?_
    rintro e w2 ⟨kd', ak', nk', ck', a1', n1', c1', a2', n2', c2', rfl, hmv, hb2⟩
    obtain ⟨r0', r1', r2', r3'⟩ := cells4 (bl_heap hb2 HRB.out)
    have rf' := froz_blk (bl_heap hb2 HRB.out)
    have HMV := Lib.hid hmv
    have HB2 := Lib.hid hb2
    have hz2 := hb2.size
    clear hmv hb2
    go_wp2
    refine bodyPost_ret (v := .agg #[.int .i64 kd', .slice ak' nk' ck', .slice a1' n1' c1', .slice a2' n2' c2']) (by simp [results, Tryz.results20, go_sem, r0', r1', r2', r3']) rfl ?_
    unfold givenOf
    rw [if_pos h]
    refine ⟨_, _, _, _, _, _, _, _, _, _, rfl, ?_, ?_⟩
    · refine HMV.out.mono (fr_lower HLO.out (by omega) fun k h1 h2 => ?_)
      repeat rw [Below.heap_setCell _ _ _ k (show k ≠ w.heap.size + 1 from by omega)]
    · have hle : w.heap.size ≤ w.heap.size + 1 := by omega
      exact ((((bl_trans HBL.out HB2.out).setCell hle _).setCell hle _).setCell hle _).setCell hle _
  · have h0 : L' < 0 := by rcases hs with ⟨h1, h2⟩ | ⟨h1, _, _⟩ <;> omega
    clear hs
    have h1 : decide (0 ≤ L') = false := by simp; omega
    go_wp2
    refine bodyPost_ret (v := .agg #[.int .i64 (-1), .slice none 0 0, .slice none 0 0, .slice none 0 0]) (by simp [results, Tryz.results20, go_sem, r0, r1, r2, r3]) rfl ?_
    unfold givenOf
    rw [if_neg h]
    refine ⟨_, _, _, _, _, _, _, _, _, _, rfl, mst_bad _, ?_⟩
    have hle : w.heap.size ≤ w.heap.size + 1 := by omega
    exact (((HBL.out.setCell hle _).setCell hle _).setCell hle _).setCell hle _

end Go.Proofs.YtaglgokeejjagaaGreat
