/- 'proper' of the laws at one type. -/
import Derived.Test.YtaglgokeejjagaaGreatPrp
import Derived.Test.YtaglgokeejjagaaGreatObjQ
import Derived.Test.YtaglgokeejjagaaGreatSiz
import Derived.Test.YtaglgokeejjagaaGreatInTy
namespace Go.Proofs.YtaglgokeejjagaaGreat
set_option linter.unusedVariables false
set_option linter.unusedSimpArgs false
open Go.RowKit Go.Sort Go.Proofs.YtaglgokeejjagaaGreatW.PrintLast

theorem ky_ak {k : Ky} (h : KyOk k) : kyOf (akOf k) = k := by
  obtain ⟨kd, tx⟩ := k
  obtain ⟨h1, h2⟩ := h
  simp only at h1 h2
  have hz : kd = 4 ∨ tx = ⟨#[]⟩ := h2.imp id fun h => by
    have e0 : (⟨#[]⟩ : ByteArray).toList = [] := by rw [ByteArray.toList, ByteArray.toList.loop]; rfl
    exact AK.text.inj (AK.code_inj (by simp [AK.code, h, e0]))
  unfold akOf
  rcases h1 with rfl | rfl | rfl | rfl
  · obtain rfl := hz.resolve_left (by decide); rfl
  · obtain rfl := hz.resolve_left (by decide); rfl
  · obtain rfl := hz.resolve_left (by decide); rfl
  · rfl
theorem pt_bt {t : ST} (h : PT t) : BT t := by
  induction h with
  | @mk t hs hk ho hd hc ih =>
    obtain ⟨kd, ks, kids, more⟩ := t
    simp only [ShP, ST.kind, ST.keys, ST.kids, ST.more] at hs hk ho hd hc ih
    rcases hs with ⟨h1, h4, h5, h6⟩ | ⟨rfl, h5⟩ | ⟨rfl, h5, h6⟩ | ⟨rfl, h5, h6⟩ | ⟨rfl, h5, h6⟩
    · obtain rfl := List.length_eq_zero_iff.1 h5
      obtain rfl := List.length_eq_zero_iff.1 h6
      obtain rfl := List.length_eq_zero_iff.1 (hk.resolve_left (by omega))
      have : kd = 1 ∨ kd = 2 ∨ kd = 3 ∨ kd = 4 := by omega
      rcases this with rfl | rfl | rfl | rfl
      · exact .null
      · exact .bool
      · exact .num
      · exact .str
    · obtain rfl := List.length_eq_zero_iff.1 (hk.resolve_left (by decide))
      exact .arr (fun k hk => ih k (.inl hk)) h5 (fun k hk => ih k (.inr hk))
    · have e : (ks.map akOf).map kyOf = ks := by
        rw [List.map_map]
        refine (List.map_congr_left (g := id) (fun k hk => ?_)).trans (List.map_id _)
        obtain ⟨i, hi, rfl⟩ := List.getElem_of_mem hk
        exact ky_ak (ho i hi)
      rw [← e]
      refine .obj (by simpa using h5) ?_ (fun k hk => ih k (.inl hk)) h6 (fun k hk => ih k (.inr hk))
      rw [List.Nodup, List.pairwise_iff_getElem]
      intro i j hi hj hij he
      rw [List.getElem_map, List.getElem_map] at he
      rw [List.length_map] at hi hj
      have := congrArg kyOf he
      rw [ky_ak (ho i hi), ky_ak (ho j hj)] at this
      exact hd j hj i hij this
    · obtain rfl := List.length_eq_zero_iff.1 h6
      obtain rfl := List.length_eq_zero_iff.1 (hk.resolve_left (by decide))
      obtain ⟨t, rfl⟩ := List.length_eq_one_iff.1 h5
      exact .set (ih t (.inl (by simp)))
    · obtain rfl := List.length_eq_zero_iff.1 h6
      obtain rfl := List.length_eq_zero_iff.1 (hk.resolve_left (by decide))
      exact .any (fun k hk => ih k (.inl hk))
theorem pt_na {t : ST} (h : PT t) : Na t := by
  induction h with
  | @mk t hs hk ho hd hc ih =>
    obtain ⟨kd, ks, kids, more⟩ := t
    simp only [ShP, ST.kind, ST.keys, ST.kids, ST.more] at hs hk ho hd hc ih
    refine .mk (fun h8 => ?_) (fun k hk => ih k (.inl hk)) (fun k hk => ih k (.inr hk))
    rcases hs with h | h | h | h | h
    · omega
    · omega
    · omega
    · omega
    · exact h.2.1
theorem PT.kind {t : ST} (h : PT t) : 1 ≤ t.kind ∧ t.kind ≤ 8 := by
  cases h with | mk hs _ _ _ _ => rcases hs with h | h | h | h | h <;> omega
theorem pt_kindOf {t : IT} (h : PT (kindOf t)) : WI t ≤ 5000 ∧ PT (toS t) := by
  unfold kindOf at h
  split at h
  · exact ⟨by assumption, h⟩
  · exact absurd h.kind.1 (by decide)
theorem ws_kindOf (t : IT) : WS (kindOf t) ≤ 1000000 := by
  unfold kindOf
  split
  · rw [WS_toS]; omega
  · simp [badS, WS]
def PrpQ (t : IT) (w : World) (e : Ending) (w' : World) : Prop := ∃ b, e = .returned (.bool b) ∧ (b = true → WI t ≤ 5000 ∧ PT (toS t)) ∧ Below w.heap.size w w'

set_option maxHeartbeats 4000000 in
set_option maxRecDepth 100000 in
theorem proper1 {t : IT} {m : Mem} {kd : Int} {nm tx : ByteArray} {ak a1 a2 : Option Addr} {nk ck n1 c1 n2 c2 : Nat} {b : Nat} {w : World} (hb : BdI t) (hv : MIT m (itCells kd nm tx ak nk ck a1 n1 c1 a2 n2 c2) t) (hm : MLe m w.cell?)
    (hx : w.heap[b]? = some (.cells #[.int .i64 kd, .string nm, .string tx, .slice ak nk ck, .slice a1 n1 c1, .slice a2 n2 c2] 25 (0, 0))) : Calls Tryz.prog 12 #[.slice (some ⟨b, 0, none⟩) 1 1] w (PrpQ t w) := by
  have HK := Lib.hid (fun (W : World) (hW : MLe m W.cell?) => show Calls Tryz.prog 16 #[.agg #[.int .i64 kd, .string nm, .string tx, .slice ak nk ck, .slice a1 n1 c1, .slice a2 n2 c2]] W (CpT (kindOf t) m W) from kind_any t m _ _ _ _ _ _ _ _ _ _ _ _ W hb hv hW)
  have HP := Lib.hid (fun (m : Mem) (kd : Int) (ak a1 a2 : Option Addr) (nk ck n1 c1 n2 c2 : Nat) (W : World) (h : MST m (stCells kd ak nk ck a1 n1 c1 a2 n2 c2) (kindOf t)) (hW : MLe m W.cell?) => show Calls Tryz.prog 35 #[.agg #[.int .i64 kd, .slice ak nk ck, .slice a1 n1 c1, .slice a2 n2 c2]] W (PrQ (kindOf t) W) from properT_any (kindOf t) m _ _ _ _ _ _ _ _ _ _ W h (ws_kindOf t) hW)
  have HS := Lib.hid (fun (m : Mem) (kd : Int) (ak a1 a2 : Option Addr) (nk ck n1 c1 n2 c2 : Nat) (W : World) (h : MST m (stCells kd ak nk ck a1 n1 c1 a2 n2 c2) (kindOf t)) (hW : MLe m W.cell?) => show Calls Tryz.prog 36 #[.agg #[.int .i64 kd, .slice ak nk ck, .slice a1 n1 c1, .slice a2 n2 c2]] W (SzQ (kindOf t) W) from size_any (kindOf t) m _ _ _ _ _ _ _ _ _ _ W h (ws_kindOf t) hW)
  have HM := Lib.hid hm
  have HLO := Lib.hid (lo_of_mle hm)
  have HX := Lib.hid hx
  have HSZ := Lib.hid (lt_blk hx)
  clear hb hv hm hx
  go_enter Tryz.func12, Tryz.ntmps12
  go_wp2_with fail
  go_loopw [4, 7] (fun _ i wr => ∃ k : Nat, k ≤ 1 ∧ i = .int .i64 k ∧ Hid (Below w.heap.size w wr ∧ (k = 1 → WI t ≤ 5000 ∧ PT (toS t)))) (fun _ i _ => 1 - (intOf i).toNat)
  case atStart => exact ⟨0, Nat.zero_le _, rfl, Below.refl _ _, fun h => by cases h⟩
  case round =>
    obtain ⟨k, hk, rfl, hI⟩ := hrel
    by_cases hlt : k < 1
    · obtain rfl : k = 0 := by omega
      have HXR := Lib.hid (bl_heap hI.out.1 HX.out)
      obtain ⟨x0, x1, x2, x3, x4, x5⟩ := cells6 HXR.out
      have hsz := HSZ.out
      have HB0 := Lib.hid (bl_alloc hI.out.1 (.cells #[.int .i64 kd, .string nm, .string tx, .slice ak nk ck, .slice a1 n1 c1, .slice a2 n2 c2] 25))
      go_wp2_with (first
        | (go_at_call 16; refine (HK.out _ (HM.out.trans (mle_below HBP.out))).mono ?_; rintro e w3 ⟨kd', ak', nk', ck', a1', n1', c1', a2', n2', c2', rfl, hmv, hb1⟩; have HMV2 := Lib.hid hmv; have HBS := Lib.hid (bl_trans HBP.out hb1); clear hmv hb1)
        | (go_at_call 16; refine (HK.out _ (HM.out.trans (mle_below HB0.out))).mono ?_; rintro e w1 ⟨kd', ak', nk', ck', a1', n1', c1', a2', n2', c2', rfl, hmv, hb1⟩; have HMV := Lib.hid hmv; have HB1 := Lib.hid (bl_trans HB0.out hb1); have HX1 := Lib.hid (bl_heap hb1 (al_new (w := wr) (o := .cells #[.int .i64 kd, .string nm, .string tx, .slice ak nk ck, .slice a1 n1 c1, .slice a2 n2 c2] 25) rfl)); clear hmv hb1)
        | (go_at_call 35; refine (HP.out _ _ _ _ _ _ _ _ _ _ _ _ HMV.out (fr_le (HM.out.trans (mle_below HB1.out)))).mono ?_; rintro e w2 ⟨b, rfl, hp, hb2⟩; have HPT := Lib.hid hp; have HBP := Lib.hid (bl_trans HB1.out hb2); have HX2 := Lib.hid (bl_heap hb2 HX1.out); clear hp hb2; clear x0 x1 x2 x3 x4 x5; obtain ⟨y0, y1, y2, y3, y4, y5⟩ := cells6 HX2.out; have y6 := lt_blk HX2.out; cases b)
        | (go_at_call 36; refine (HS.out _ _ _ _ _ _ _ _ _ _ _ _ HMV2.out (fr_le (HM.out.trans (mle_below HBS.out)))).mono ?_; rintro e w4 ⟨n, hn, rfl, hb4⟩; have HBE := Lib.hid (bl_trans HBS.out hb4); clear hn hb4))
      · go_ret
        exact ⟨_, rfl, (fun h => by cases h), HBP.out⟩
      · go_ret
        exact ⟨_, rfl, (fun h => by cases h), HBE.out⟩
      · exact ⟨⟨1, by omega, rfl, ⟨HBE.out, fun _ => pt_kindOf (HPT.out (by simp))⟩⟩, by simp [intOf]⟩
    · obtain rfl : k = 1 := by omega
      go_wp2
      go_ret
      exact ⟨_, rfl, fun _ => hI.out.2 (by simp), hI.out.1⟩
end Go.Proofs.YtaglgokeejjagaaGreat
