/- The law FnSelectItem: the walks where nothing is selected. -/
import Derived.Test.YtaglgokeejjagaaGreatSelP
import Derived.Test.YtaglgokeejjagaaGreatWorks
import Derived.Test.YtaglgokeejjagaaGreatFits2
namespace Go.Proofs.YtaglgokeejjagaaGreat
set_option linter.unusedVariables false
set_option linter.unusedSimpArgs false
open Go.RowKit Go.Sort Go.Proofs.YtaglgokeejjagaaGreatW.PrintLast

def LawQ (w : World) (e : Ending) (w' : World) : Prop := e = .returned (.bool true) ∧ Below w.heap.size w w'
variable {t : IT} {m : Mem} {kd : Int} {nm tx : ByteArray} {ak a1 a2 : Option Addr} {nk ck n1 c1 n2 c2 : Nat} {w : World}
set_option maxHeartbeats 4000000 in
set_option maxRecDepth 100000 in
theorem li_neg {n : Int} (hb : BdI t) (hv : MIT m (itCells kd nm tx ak nk ck a1 n1 c1 a2 n2 c2) t) (hm : MLe m w.cell?) (hn : n < 0) :
    Calls Tryz.prog 4 #[.agg #[.int .i64 kd, .string nm, .string tx, .slice ak nk ck, .slice a1 n1 c1, .slice a2 n2 c2], .int .i64 n] w (LawQ w) := by
  have HF := Lib.hid (fun (W : World) (h : MLe m W.cell?) => show Calls Tryz.prog 10 #[.agg #[.int .i64 kd, .string nm, .string tx, .slice ak nk ck, .slice a1 n1 c1, .slice a2 n2 c2]] W (SomeB W) from zzFits1_any hb hv h)
  have HPR := Lib.hid (fun (W : World) (b : Nat) (h : MLe m W.cell?) (hx : W.heap[b]? = some (.cells #[.int .i64 kd, .string nm, .string tx, .slice ak nk ck, .slice a1 n1 c1, .slice a2 n2 c2] 25 (0, 0))) => show Calls Tryz.prog 12 #[.slice (some ⟨b, 0, none⟩) 1 1] W (PrpQ t W) from proper1 hb hv h hx)
  have HM := Lib.hid hm
  have HV := Lib.hid hv
  clear hb hm hv
  have hn2 : decide (n < 0) = true := by simpa using hn
  go_enter Tryz.func4, Tryz.ntmps4
  go_wp2_with (first
    | (go_at_call 10; refine (HF.out _ (mle_alloc HM.out _)).mono ?_; rintro e w1 ⟨b, rfl, hg⟩; have HX := Lib.hid (bl_heap hg.below (al_new rfl)); have HB1 := Lib.hid (bl_trans (bl_alloc (Below.refl _ _) _) hg.below); obtain ⟨x0, x1, x2, x3, x4, x5⟩ := cells6 HX.out; have x6 := lt_blk HX.out; cases b <;> clear hg)
    | (go_at_call 12; refine (HPR.out _ _ (mle_alloc (HM.out.trans (mle_below HB1.out)) _) (al_new rfl)).mono ?_; rintro e w2 ⟨b, rfl, hp, hb2⟩; have HPP := Lib.hid hp; have HB2 := Lib.hid (bl_trans (bl_alloc HB1.out _) hb2); have HX2 := Lib.hid (bl_heap hb2 (al_old HX.out)); clear hp hb2 x0 x1 x2 x3 x4 x5 x6; obtain ⟨x0, x1, x2, x3, x4, x5⟩ := cells6 HX2.out; have x6 := lt_blk HX2.out; cases b)
    | (go_at_call 17; refine (works_any _).mono ?_; rintro e w4 ⟨rfl, hg4⟩; have HB4 := Lib.hid (bl_trans HB2.out hg4.below); clear hg4))
  all_goals
    first
      | (go_ret; first | exact ⟨rfl, HB4.out⟩ | exact ⟨rfl, HB1.out⟩)
set_option maxHeartbeats 4000000 in
set_option maxRecDepth 100000 in
theorem li_kind {n : Int} (hb : BdI t) (hv : MIT m (itCells kd nm tx ak nk ck a1 n1 c1 a2 n2 c2) t) (hm : MLe m w.cell?) (h5 : (kd == 5) = false) (h6 : (kd == 6) = false) :
    Calls Tryz.prog 4 #[.agg #[.int .i64 kd, .string nm, .string tx, .slice ak nk ck, .slice a1 n1 c1, .slice a2 n2 c2], .int .i64 n] w (LawQ w) := by
  have HF := Lib.hid (fun (W : World) (h : MLe m W.cell?) => show Calls Tryz.prog 10 #[.agg #[.int .i64 kd, .string nm, .string tx, .slice ak nk ck, .slice a1 n1 c1, .slice a2 n2 c2]] W (SomeB W) from zzFits1_any hb hv h)
  have HPR := Lib.hid (fun (W : World) (b : Nat) (h : MLe m W.cell?) (hx : W.heap[b]? = some (.cells #[.int .i64 kd, .string nm, .string tx, .slice ak nk ck, .slice a1 n1 c1, .slice a2 n2 c2] 25 (0, 0))) => show Calls Tryz.prog 12 #[.slice (some ⟨b, 0, none⟩) 1 1] W (PrpQ t W) from proper1 hb hv h hx)
  have HM := Lib.hid hm
  have HV := Lib.hid hv
  clear hb hm hv
  go_enter Tryz.func4, Tryz.ntmps4
  go_wp2_with (first
    | (go_at_call 10; refine (HF.out _ (mle_alloc HM.out _)).mono ?_; rintro e w1 ⟨b, rfl, hg⟩; have HX := Lib.hid (bl_heap hg.below (al_new rfl)); have HB1 := Lib.hid (bl_trans (bl_alloc (Below.refl _ _) _) hg.below); obtain ⟨x0, x1, x2, x3, x4, x5⟩ := cells6 HX.out; have x6 := lt_blk HX.out; cases b <;> clear hg)
    | (go_at_call 12; refine (HPR.out _ _ (mle_alloc (HM.out.trans (mle_below HB1.out)) _) (al_new rfl)).mono ?_; rintro e w2 ⟨b, rfl, hp, hb2⟩; have HPP := Lib.hid hp; have HB2 := Lib.hid (bl_trans (bl_alloc HB1.out _) hb2); have HX2 := Lib.hid (bl_heap hb2 (al_old HX.out)); clear hp hb2 x0 x1 x2 x3 x4 x5 x6; obtain ⟨x0, x1, x2, x3, x4, x5⟩ := cells6 HX2.out; have x6 := lt_blk HX2.out; cases b)
    | (go_at_call 17; refine (works_any _).mono ?_; rintro e w4 ⟨rfl, hg4⟩; have HB4 := Lib.hid (bl_trans HB2.out hg4.below); clear hg4))
  all_goals
    first
      | (go_ret; first | exact ⟨rfl, HB4.out⟩ | exact ⟨rfl, HB1.out⟩)
set_option maxHeartbeats 4000000 in
set_option maxRecDepth 100000 in
theorem li_5 {k : Nat} (hb : BdI t) (hv : MIT m (itCells kd nm tx ak nk ck a1 n1 c1 a2 n2 c2) t) (hm : MLe m w.cell?) (hk : ¬k < n1) (h2 : ¬n2 = 1) (hkd : kd = 5) :
    Calls Tryz.prog 4 #[.agg #[.int .i64 kd, .string nm, .string tx, .slice ak nk ck, .slice a1 n1 c1, .slice a2 n2 c2], .int .i64 k] w (LawQ w) := by
  have HF := Lib.hid (fun (W : World) (h : MLe m W.cell?) => show Calls Tryz.prog 10 #[.agg #[.int .i64 kd, .string nm, .string tx, .slice ak nk ck, .slice a1 n1 c1, .slice a2 n2 c2]] W (SomeB W) from zzFits1_any hb hv h)
  have HPR := Lib.hid (fun (W : World) (b : Nat) (h : MLe m W.cell?) (hx : W.heap[b]? = some (.cells #[.int .i64 kd, .string nm, .string tx, .slice ak nk ck, .slice a1 n1 c1, .slice a2 n2 c2] 25 (0, 0))) => show Calls Tryz.prog 12 #[.slice (some ⟨b, 0, none⟩) 1 1] W (PrpQ t W) from proper1 hb hv h hx)
  have HM := Lib.hid hm
  have HV := Lib.hid hv
  clear hb hm hv
  subst hkd
  have hx : decide ((k : Int) < (n1 : Int)) = false := by simp; omega
  have hx2 : decide (k < n1) = false := by simp; omega
  have hx3 : ((n2 : Int) == 1) = false := by simp; omega
  go_enter Tryz.func4, Tryz.ntmps4
  go_wp2_with (first
    | (go_at_call 10; refine (HF.out _ (mle_alloc HM.out _)).mono ?_; rintro e w1 ⟨b, rfl, hg⟩; have HX := Lib.hid (bl_heap hg.below (al_new rfl)); have HB1 := Lib.hid (bl_trans (bl_alloc (Below.refl _ _) _) hg.below); obtain ⟨x0, x1, x2, x3, x4, x5⟩ := cells6 HX.out; have x6 := lt_blk HX.out; cases b <;> clear hg)
    | (go_at_call 12; refine (HPR.out _ _ (mle_alloc (HM.out.trans (mle_below HB1.out)) _) (al_new rfl)).mono ?_; rintro e w2 ⟨b, rfl, hp, hb2⟩; have HPP := Lib.hid hp; have HB2 := Lib.hid (bl_trans (bl_alloc HB1.out _) hb2); have HX2 := Lib.hid (bl_heap hb2 (al_old HX.out)); clear hp hb2 x0 x1 x2 x3 x4 x5 x6; obtain ⟨x0, x1, x2, x3, x4, x5⟩ := cells6 HX2.out; have x6 := lt_blk HX2.out; cases b)
    | (go_at_call 17; refine (works_any _).mono ?_; rintro e w4 ⟨rfl, hg4⟩; have HB4 := Lib.hid (bl_trans HB2.out hg4.below); clear hg4))
  all_goals
    first
      | (go_ret; first | exact ⟨rfl, HB4.out⟩ | exact ⟨rfl, HB1.out⟩)
set_option maxHeartbeats 4000000 in
set_option maxRecDepth 100000 in
theorem li_6 {k : Nat} (hb : BdI t) (hv : MIT m (itCells kd nm tx ak nk ck a1 n1 c1 a2 n2 c2) t) (hm : MLe m w.cell?) (hk : ¬k < nk) (hkd : kd = 6) :
    Calls Tryz.prog 4 #[.agg #[.int .i64 kd, .string nm, .string tx, .slice ak nk ck, .slice a1 n1 c1, .slice a2 n2 c2], .int .i64 k] w (LawQ w) := by
  have HF := Lib.hid (fun (W : World) (h : MLe m W.cell?) => show Calls Tryz.prog 10 #[.agg #[.int .i64 kd, .string nm, .string tx, .slice ak nk ck, .slice a1 n1 c1, .slice a2 n2 c2]] W (SomeB W) from zzFits1_any hb hv h)
  have HPR := Lib.hid (fun (W : World) (b : Nat) (h : MLe m W.cell?) (hx : W.heap[b]? = some (.cells #[.int .i64 kd, .string nm, .string tx, .slice ak nk ck, .slice a1 n1 c1, .slice a2 n2 c2] 25 (0, 0))) => show Calls Tryz.prog 12 #[.slice (some ⟨b, 0, none⟩) 1 1] W (PrpQ t W) from proper1 hb hv h hx)
  have HM := Lib.hid hm
  have HV := Lib.hid hv
  clear hb hm hv
  subst hkd
  have hx : decide ((k : Int) < (nk : Int)) = false := by simp; omega
  have hx2 : decide (k < nk) = false := by simp; omega
  go_enter Tryz.func4, Tryz.ntmps4
  go_wp2_with (first
    | (go_at_call 10; refine (HF.out _ (mle_alloc HM.out _)).mono ?_; rintro e w1 ⟨b, rfl, hg⟩; have HX := Lib.hid (bl_heap hg.below (al_new rfl)); have HB1 := Lib.hid (bl_trans (bl_alloc (Below.refl _ _) _) hg.below); obtain ⟨x0, x1, x2, x3, x4, x5⟩ := cells6 HX.out; have x6 := lt_blk HX.out; cases b <;> clear hg)
    | (go_at_call 12; refine (HPR.out _ _ (mle_alloc (HM.out.trans (mle_below HB1.out)) _) (al_new rfl)).mono ?_; rintro e w2 ⟨b, rfl, hp, hb2⟩; have HPP := Lib.hid hp; have HB2 := Lib.hid (bl_trans (bl_alloc HB1.out _) hb2); have HX2 := Lib.hid (bl_heap hb2 (al_old HX.out)); clear hp hb2 x0 x1 x2 x3 x4 x5 x6; obtain ⟨x0, x1, x2, x3, x4, x5⟩ := cells6 HX2.out; have x6 := lt_blk HX2.out; cases b)
    | (go_at_call 17; refine (works_any _).mono ?_; rintro e w4 ⟨rfl, hg4⟩; have HB4 := Lib.hid (bl_trans HB2.out hg4.below); clear hg4))
  all_goals
    first
      | (go_ret; first | exact ⟨rfl, HB4.out⟩ | exact ⟨rfl, HB1.out⟩)
end Go.Proofs.YtaglgokeejjagaaGreat
