/- The law FnSelectItem, whatever the input. -/
import Derived.Test.YtaglgokeejjagaaGreatLawI2
namespace Go.Proofs.YtaglgokeejjagaaGreat
set_option linter.unusedVariables false
set_option linter.unusedSimpArgs false
open Go.RowKit Go.Sort Go.Proofs.YtaglgokeejjagaaGreatW.PrintLast

theorem li_lens {t : IT} (h : BT (toS t)) (k : t.kind = 6) : t.keys.length = t.kids.length := by
  have e := toS_mk t
  rw [k] at e
  rw [e] at h
  obtain ⟨aks, e1, e2, _⟩ := bt_6 h
  rw [e1]; simpa using e2
set_option maxHeartbeats 4000000 in
set_option maxRecDepth 100000 in
theorem li_bad {t : IT} {m : Mem} {kd : Int} {nm tx : ByteArray} {ak a1 a2 : Option Addr} {nk ck n1 c1 n2 c2 : Nat} {w : World} {k : Nat} (hb : BdI t) (hv : MIT m (itCells kd nm tx ak nk ck a1 n1 c1 a2 n2 c2) t) (hm : MLe m w.cell?) (hkd : t.kind = 6) (hk : k < t.keys.length) (hk2 : ¬k < t.kids.length) (h4 : t.keys[k].kind = 4) :
    Calls Tryz.prog 4 #[.agg #[.int .i64 kd, .string nm, .string tx, .slice ak nk ck, .slice a1 n1 c1, .slice a2 n2 c2], .int .i64 k] w (LawQ w) := by
  have HF := Lib.hid (fun (W : World) (h : MLe m W.cell?) => show Calls Tryz.prog 10 #[.agg #[.int .i64 kd, .string nm, .string tx, .slice ak nk ck, .slice a1 n1 c1, .slice a2 n2 c2]] W (SomeB W) from zzFits1_any hb hv h)
  have HPR := Lib.hid (fun (W : World) (b : Nat) (h : MLe m W.cell?) (hx : W.heap[b]? = some (.cells #[.int .i64 kd, .string nm, .string tx, .slice ak nk ck, .slice a1 n1 c1, .slice a2 n2 c2] 25 (0, 0))) => show Calls Tryz.prog 12 #[.slice (some ⟨b, 0, none⟩) 1 1] W (PrpQ t W) from proper1 hb hv h hx)
  have HM := Lib.hid hm
  have HV := Lib.hid hv
  clear hb hm hv
  have HNO := Lib.hid (fun h : PT (toS t) => hk2 (by rw [← li_lens (pt_bt h) hkd]; exact hk))
  obtain ⟨rfl, rfl, rfl, rfl, rfl, rfl, ⟨lk1, lk2⟩, ⟨l11, l12⟩, ⟨l21, l22⟩, rk, r1, r2⟩ := HV.out.open
  obtain ⟨kb, ko, rfl, k0, k1⟩ := rk.at hk
  rw [h4] at k0
  have QK0 := Lib.hid k0
  clear k0 k1 rk r1 r2 h4
  rw [hkd] at HPR HF HV ⊢
  clear hkd hk2
  have hx : decide ((k : Int) < (t.keys.length : Int)) = true := by simp; omega
  go_enter Tryz.func4, Tryz.ntmps4
  go_wp2_with (first
    | (go_at_call 10; refine (HF.out _ (mle_alloc HM.out _)).mono ?_; rintro e w1 ⟨b, rfl, hg⟩; have HX := Lib.hid (bl_heap hg.below (al_new rfl)); have HB1 := Lib.hid (bl_trans (bl_alloc (Below.refl _ _) _) hg.below); obtain ⟨x0, x1, x2, x3, x4, x5⟩ := cells6 HX.out; have x6 := lt_blk HX.out; cases b <;> clear hg)
    | (go_at_call 12; refine (HPR.out _ _ (mle_alloc (HM.out.trans (mle_below HB1.out)) _) (al_new rfl)).mono ?_; rintro e w2 ⟨b, rfl, hp, hb2⟩; have HPP := Lib.hid hp; have HB2 := Lib.hid (bl_trans (bl_alloc HB1.out _) hb2); have HX2 := Lib.hid (bl_heap hb2 (al_old HX.out)); clear hp hb2 x0 x1 x2 x3 x4 x5 x6; obtain ⟨x0, x1, x2, x3, x4, x5⟩ := cells6 HX2.out; have x6 := lt_blk HX2.out; have xk := (HM.out.trans (mle_below HB2.out)) _ _ QK0.out; have xk1 := lt_blk HX2.out; cases b)
    | (go_at_call 17; refine (works_any _).mono ?_; rintro e w4 ⟨rfl, hg4⟩; have HB4 := Lib.hid (bl_trans HB2.out hg4.below); clear hg4))
  all_goals first
    | (go_ret; first | exact ⟨rfl, HB4.out⟩ | exact ⟨rfl, HB1.out⟩)
    | exact (HNO.out (HPP.out (by simp)).2).elim
set_option maxRecDepth 100000 in
theorem law_item {t : IT} {m : Mem} {kd : Int} {nm tx : ByteArray} {ak a1 a2 : Option Addr} {nk ck n1 c1 n2 c2 : Nat} {w : World} {n : Int} (hb : BdI t) (hv : MIT m (itCells kd nm tx ak nk ck a1 n1 c1 a2 n2 c2) t) (hm : MLe m w.cell?) :
    Calls Tryz.prog 4 #[.agg #[.int .i64 kd, .string nm, .string tx, .slice ak nk ck, .slice a1 n1 c1, .slice a2 n2 c2], .int .i64 n] w (LawQ w) := by
  by_cases hn : n < 0
  · exact li_neg hb hv hm hn
  obtain ⟨k, rfl⟩ : ∃ k : Nat, n = k := ⟨n.toNat, by omega⟩
  obtain ⟨e1, rfl, rfl, e4, e5, e6, _⟩ := hv.open
  by_cases h5 : kd = 5
  · by_cases hk : k < n1
    · exact li_kid hb hv hm (by omega) (by omega)
    · by_cases h2 : n2 = 1
      · exact li_more hb hv hm (by omega) (by omega) (by omega)
      · exact li_5 hb hv hm hk h2 h5
  · by_cases h6 : kd = 6
    · by_cases hk : k < nk
      · by_cases h4 : t.keys[k].kind = 4
        · by_cases hk2 : k < t.kids.length
          · exact li_key hb hv hm (by omega) (by omega) hk2 h4
          · exact li_bad hb hv hm (by omega) (by omega) hk2 h4
        · exact li_nokey hb hv hm (by omega) (by omega) (by simpa using h4)
      · exact li_6 hb hv hm hk h6
    · exact li_kind hb hv hm (by simpa using h5) (by simpa using h6)

end Go.Proofs.YtaglgokeejjagaaGreat
