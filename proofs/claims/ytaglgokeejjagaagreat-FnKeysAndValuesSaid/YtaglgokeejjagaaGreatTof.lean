/- 'TypeOf' of the thin package. -/
import Derived.Test.YtaglgokeejjagaaGreatTyW
import Derived.Test.YtaglgokeejjagaaGreatPlainW
namespace Go.Proofs.YtaglgokeejjagaaGreat
set_option linter.unusedVariables false
set_option linter.unusedSimpArgs false
open Go.RowKit Go.Sort

theorem WS_tyOf (t : Vl) : WS (tyOf t) ≤ WV t := by
  obtain ⟨kd, tx, ks, kids⟩ := t
  have hk : ∀ k ∈ kids, WS (tyOf k) ≤ WV k := fun k hk => WS_tyOf k
  have hsum : ((kids.map tyOf).map WS).sum ≤ (kids.map WV).sum := by
    clear ks tx
    induction kids with
    | nil => simp
    | cons a r ih =>
      simp only [List.map_cons, List.sum_cons]
      have h1 := hk a List.mem_cons_self
      have h2 := ih (fun k h => hk k (List.mem_cons_of_mem _ h))
      omega
  rw [tyOf, WV]
  have hp : 1 ≤ WS (.mk 1 [] [] []) ∧ WS (.mk 1 [] [] []) ≤ 1 := by rw [WS]; simp
  by_cases h0 : kd = 0
  · rw [if_pos h0, WS]; simp; omega
  rw [if_neg h0]
  by_cases h1 : kd = 1 ∨ kd = 2
  · rw [if_pos h1, WS]; simp; omega
  rw [if_neg h1]
  by_cases h3 : kd = 3
  · rw [if_pos h3, WS]; simp; omega
  rw [if_neg h3]
  by_cases h4 : kd = 4
  · rw [if_pos h4, WS]; simp; omega
  rw [if_neg h4]
  by_cases h5 : kd = 5
  · rw [if_pos h5, WS]; simp only [List.length_nil, List.map_nil, List.sum_nil]; omega
  · rw [if_neg h5, WS]
    have e : ((ks.map fun k => (⟨4, k⟩ : Ky)).map fun k => k.text.size) = ks.map ByteArray.size := by simp [Function.comp_def]
    rw [e]
    simp only [List.length_map, List.map_nil, List.sum_nil]; omega
termination_by SizeOf.sizeOf t
decreasing_by exact Vl.lt_kid (by assumption)

theorem hle_zero (B : Nat) (w : World) : HLe (vwb B w none) (vwb 0 w none) := vwb_step (Nat.zero_le _) (fun _ _ _ _ => rfl) (fun k e => by cases e)
theorem mle_m0 (f : Mem) : MLe m0 f := fun a x h => by cases h

set_option maxHeartbeats 2000000 in
set_option maxRecDepth 100000 in
theorem tof_any {t : Vl} {m : Mem} {kd : Int} {tx : ByteArray} {ak : Option Addr} {nk ck : Nat} {a1 : Option Addr} {n1 c1 : Nat} {w : World} (hp : PV t) (hw : WV t ≤ 5000) (hv : MV m (vlCells kd tx ak nk ck a1 n1 c1) t) (hm : MLe m w.cell?) :
    Calls Tryz.prog 29 #[.agg #[.int .i64 kd, .string tx, .slice ak nk ck, .slice a1 n1 c1]] w (PlP (tyOf t) w) := by
  have HV := Lib.hid hv
  have HM := Lib.hid hm
  have HP := Lib.hid hp
  have HW := Lib.hid hw
  have HS := Lib.hid (Nat.le_trans (WS_tyOf t) (Nat.le_trans hw (by decide : 5000 ≤ 1000000000)))
  clear hv hm hp hw
  go_enter Tryz.func29, Tryz.ntmps29
  go_wp2_with (first | (go_at_call 47; refine (va_any t m _ _ _ _ _ _ _ _ _ HP.out HW.out HV.out (mle_alloc (mle_alloc HM.out _) _)).mono ?_; rintro e w1 ⟨x, rfl, hra, hb1⟩; have HRA := Lib.hid hra; have HB1 := Lib.hid hb1; have hX1 := Lib.hid (bl_heap hb1 (al_new (k := w.heap.size + 1) (by simp))); clear hra hb1) | (go_at_call 51; refine (ty_any t x _ w1 HP.out HW.out HRA.out (hle_zero _ _)).mono ?_; rintro e w2 ⟨v, rfl, hrt, hb2⟩; have HRT := Lib.hid hrt; have HB2 := Lib.hid hb2; have hX2 := Lib.hid (bl_heap hb2 hX1.out); clear hrt hb2) | (go_at_call 44; refine (plain_any (tyOf t) v _ w2 HS.out HRT.out (fr_le (mle_m0 _))).mono ?_; rintro e w3 ⟨ak', nk', ck', a1', n1', c1', a2', n2', c2', rfl, hmv, hb3⟩; have HMV := Lib.hid hmv; have HB3 := Lib.hid hb3; have hX3 := bl_heap hb3 hX2.out; have hs3 := lt_blk hX3; obtain ⟨r0, r1, r2, r3, r4, r5⟩ := cells6 hX3; have fr' := froz_blk hX3; clear hmv hb3 hX3))
  refine bodyPost_ret (v := .agg #[.int .i64 (tyOf t).kind, .string ⟨#[]⟩, .string ⟨#[]⟩, .slice ak' nk' ck', .slice a1' n1' c1', .slice a2' n2' c2']) (by simp [results, Tryz.results29, go_sem, r0, r1, r2, r3, r4, r5, hs3, fr']) rfl ⟨_, _, _, _, _, _, _, _, _, rfl, ?_, ?_⟩
  · have s1 := HB1.out.size
    have s2 := HB2.out.size
    simp at s1
    refine HMV.out.mono (fr_deep (lo_m0 _) (by omega) (fun k e => by cases e) (fun k h1 h2 _ => ?_) (.inl rfl))
    repeat rw [Below.heap_setCell _ _ _ k (show k ≠ w.heap.size + 1 from by omega)]
  · have hle : w.heap.size ≤ w.heap.size + 1 := by omega
    exact ((((((bl_trans (bl_trans (bl_trans (bl_alloc (bl_alloc (Below.refl _ _) _) _) HB1.out) HB2.out) HB3.out).setCell hle _).setCell hle _).setCell hle _).setCell hle _).setCell hle _).setCell hle _
end Go.Proofs.YtaglgokeejjagaaGreat
