/- The law FnTypeOfMissing, whatever the input. -/
import Derived.Test.YtaglgokeejjagaaGreatLawM
namespace Go.Proofs.YtaglgokeejjagaaGreat
set_option linter.unusedVariables false
set_option linter.unusedSimpArgs false
open Go.RowKit Go.Sort

set_option maxHeartbeats 4000000 in
set_option maxRecDepth 100000 in
theorem law_missing_no {t : Vl} {m : Mem} {kd : Int} {tx : ByteArray} {ak : Option Addr} {nk ck : Nat} {a1 : Option Addr} {n1 c1 : Nat} {w : World} {n : Int} (hb : BdV t) (hv : MV m (vlCells kd tx ak nk ck a1 n1 c1) t) (hm : MLe m w.cell?)
    (b1 b2 b3 b4 : Bool) (hp : properV (valOf t) = b1) (hk : (kd != 6) = b2) (hn : decide (n < 0) = b3) (hn2 : decide ((nk : Int) ≤ n) = b4) (h : b1 = false ∨ b2 = true ∨ b3 = true ∨ b4 = true) :
    Calls Tryz.prog 8 #[.agg #[.int .i64 kd, .string tx, .slice ak nk ck, .slice a1 n1 c1], .int .i64 n] w (LawP w) := by
  have HV := Lib.hid hv
  have HM := Lib.hid hm
  have HB := Lib.hid hb
  have HF := Lib.hid (fun (W : World) (h : MLe m W.cell?) => show Calls Tryz.prog 11 #[.agg #[.int .i64 kd, .string tx, .slice ak nk ck, .slice a1 n1 c1]] W (SomeB W) from by
    obtain ⟨rfl, rfl, rfl, rfl, lk, l1, rk, r1⟩ := hv.open
    exact zzFits4_any lk rk h hb.out.2.2.1 hb.out.1 l1.1 l1.2)
  have HPV := Lib.hid (fun (W : World) (m' : Mem) (kd' tx' ak' nk' ck' a1' n1' c1') (h1 : MV m' (vlCells kd' tx' ak' nk' ck' a1' n1' c1') (valOf t)) (h2 : MLe m' W.cell?) => show Calls Tryz.prog 13 #[.agg #[.int .i64 kd', .string tx', .slice ak' nk' ck', .slice a1' n1' c1']] W (PvB b1 W) from
    (properValue_any (SizeOf.sizeOf (valOf t) + 1) (valOf t) m' _ _ _ _ _ _ _ _ W (Nat.lt_succ_self _) (bd_val HB.out) h1 h2).mono fun e w' h => ⟨by rw [h.1, hp], h.2⟩)
  clear hv hm hb hp
  cases b1 <;> cases b2 <;> cases b3 <;> cases b4 <;> first
    | (exfalso; simp at h; done)
    | skip
  all_goals
    clear h
    go_enter Tryz.func8, Tryz.ntmps8
    go_wp2_with (first | (go_at_call 11; refine (HF.out _ (mle_alloc HM.out _)).mono ?_; rintro e w1 ⟨b, rfl, hg⟩; have HX := Lib.hid (bl_heap hg.below (al_new rfl)); have HG := Lib.hid hg; obtain ⟨x0, x1, x2, x3⟩ := cells4 HX.out; cases b <;> clear hg) | (go_at_call 14; refine (value_any t m _ _ _ _ _ _ _ _ _ HB.out HV.out ((mle_alloc HM.out _).trans HG.out.mle)).mono ?_; rintro e w2 ⟨kd', tx', ak', nk', ck', a1', n1', c1', rfl, hmv, hbl⟩; have HMV := Lib.hid hmv; have HBL := Lib.hid hbl; have HX2 := Lib.hid (bl_heap hbl HX.out); clear hmv hbl) | (go_at_call 13; refine (HPV.out _ _ _ _ _ _ _ _ _ _ HMV.out (fr_le ((mle_alloc HM.out _).trans (HG.out.mle.trans (mle_below HBL.out))))).mono ?_; rintro e w3 ⟨rfl, hg3⟩; have HG3 := Lib.hid hg3; have HX3 := Lib.hid (bl_heap hg3.below HX2.out); clear x0 x1 x2 x3; obtain ⟨y0, y1, y2, y3⟩ := cells4 HX3.out; clear hg3) | (go_at_call 17; refine (works_any _).mono ?_; rintro e w4 ⟨rfl, hg4⟩; have HG4 := Lib.hid hg4; clear hg4))
    · go_ret
      exact ⟨rfl, bl_trans (bl_alloc (Below.refl _ _) _) HG.out.below⟩
    · go_ret
      exact ⟨rfl, bl_trans (bl_trans (bl_trans (bl_trans (bl_alloc (Below.refl _ _) _) HG.out.below) HBL.out) HG3.out.below) HG4.out.below⟩
end Go.Proofs.YtaglgokeejjagaaGreat
