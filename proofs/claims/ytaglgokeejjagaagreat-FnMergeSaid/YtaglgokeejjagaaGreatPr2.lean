/- 'proper' over two types. -/
import Derived.Test.YtaglgokeejjagaaGreatPtb
namespace Go.Proofs.YtaglgokeejjagaaGreat
set_option linter.unusedVariables false
set_option linter.unusedSimpArgs false
open Go.RowKit Go.Sort

def PrpQ2 (ta tb : IT) (w : World) (e : Ending) (w' : World) : Prop := ∃ b, e = .returned (.bool b) ∧ (b = true → (WI ta ≤ 5000 ∧ PT (toS ta)) ∧ WI tb ≤ 5000 ∧ PT (toS tb)) ∧ Below w.heap.size w w'

set_option maxHeartbeats 8000000 in
set_option maxRecDepth 100000 in
theorem proper2 {ta tb : IT} {m : Mem} {kda : Int} {nma txa : ByteArray} {aka a1a a2a : Option Addr} {nka cka n1a c1a n2a c2a : Nat} {kdb : Int} {nmb txb : ByteArray} {akb a1b a2b : Option Addr} {nkb ckb n1b c1b n2b c2b : Nat} {b : Nat} {w : World} (hba : BdI ta) (hbb : BdI tb) (hva : MIT m (itCells kda nma txa aka nka cka a1a n1a c1a a2a n2a c2a) ta) (hvb : MIT m (itCells kdb nmb txb akb nkb ckb a1b n1b c1b a2b n2b c2b) tb) (hm : MLe m w.cell?)
    (hx : w.heap[b]? = some (.cells #[.int .i64 kda, .string nma, .string txa, .slice aka nka cka, .slice a1a n1a c1a, .slice a2a n2a c2a, .int .i64 kdb, .string nmb, .string txb, .slice akb nkb ckb, .slice a1b n1b c1b, .slice a2b n2b c2b] 25 (0, 0))) : Calls Tryz.prog 12 #[.slice (some ⟨b, 0, none⟩) 2 2] w (PrpQ2 ta tb w) := by
  have HKa := Lib.hid (fun (W : World) (hW : MLe m W.cell?) => show Calls Tryz.prog 16 #[.agg #[.int .i64 kda, .string nma, .string txa, .slice aka nka cka, .slice a1a n1a c1a, .slice a2a n2a c2a]] W (CpT (kindOf ta) m W) from kind_any ta m _ _ _ _ _ _ _ _ _ _ _ _ W hba hva hW)
  have HPa := Lib.hid (fun (m : Mem) (kd : Int) (ak a1 a2 : Option Addr) (nk ck n1 c1 n2 c2 : Nat) (W : World) (h : MST m (stCells kd ak nk ck a1 n1 c1 a2 n2 c2) (kindOf ta)) (hW : MLe m W.cell?) => show Calls Tryz.prog 35 #[.agg #[.int .i64 kd, .slice ak nk ck, .slice a1 n1 c1, .slice a2 n2 c2]] W (PrQ (kindOf ta) W) from properT_any (kindOf ta) m _ _ _ _ _ _ _ _ _ _ W h (ws_kindOf ta) hW)
  have HSa := Lib.hid (fun (m : Mem) (kd : Int) (ak a1 a2 : Option Addr) (nk ck n1 c1 n2 c2 : Nat) (W : World) (h : MST m (stCells kd ak nk ck a1 n1 c1 a2 n2 c2) (kindOf ta)) (hW : MLe m W.cell?) => show Calls Tryz.prog 36 #[.agg #[.int .i64 kd, .slice ak nk ck, .slice a1 n1 c1, .slice a2 n2 c2]] W (SzQ (kindOf ta) W) from size_any (kindOf ta) m _ _ _ _ _ _ _ _ _ _ W h (ws_kindOf ta) hW)
  have HKb := Lib.hid (fun (W : World) (hW : MLe m W.cell?) => show Calls Tryz.prog 16 #[.agg #[.int .i64 kdb, .string nmb, .string txb, .slice akb nkb ckb, .slice a1b n1b c1b, .slice a2b n2b c2b]] W (CpT (kindOf tb) m W) from kind_any tb m _ _ _ _ _ _ _ _ _ _ _ _ W hbb hvb hW)
  have HPb := Lib.hid (fun (m : Mem) (kd : Int) (ak a1 a2 : Option Addr) (nk ck n1 c1 n2 c2 : Nat) (W : World) (h : MST m (stCells kd ak nk ck a1 n1 c1 a2 n2 c2) (kindOf tb)) (hW : MLe m W.cell?) => show Calls Tryz.prog 35 #[.agg #[.int .i64 kd, .slice ak nk ck, .slice a1 n1 c1, .slice a2 n2 c2]] W (PrQ (kindOf tb) W) from properT_any (kindOf tb) m _ _ _ _ _ _ _ _ _ _ W h (ws_kindOf tb) hW)
  have HSb := Lib.hid (fun (m : Mem) (kd : Int) (ak a1 a2 : Option Addr) (nk ck n1 c1 n2 c2 : Nat) (W : World) (h : MST m (stCells kd ak nk ck a1 n1 c1 a2 n2 c2) (kindOf tb)) (hW : MLe m W.cell?) => show Calls Tryz.prog 36 #[.agg #[.int .i64 kd, .slice ak nk ck, .slice a1 n1 c1, .slice a2 n2 c2]] W (SzQ (kindOf tb) W) from size_any (kindOf tb) m _ _ _ _ _ _ _ _ _ _ W h (ws_kindOf tb) hW)
  have HM := Lib.hid hm
  have HLO := Lib.hid (lo_of_mle hm)
  have HX := Lib.hid hx
  have HSZ := Lib.hid (lt_blk hx)
  clear hba hbb hva hvb hm hx
  go_enter Tryz.func12, Tryz.ntmps12
  go_wp2_with fail
  go_loopw [4, 7] (fun _ i wr => ∃ k : Nat, k ≤ 2 ∧ i = .int .i64 k ∧ Hid (Below w.heap.size w wr ∧ (1 ≤ k → WI ta ≤ 5000 ∧ PT (toS ta)) ∧ (k = 2 → WI tb ≤ 5000 ∧ PT (toS tb)))) (fun _ i _ => 2 - (intOf i).toNat)
  case atStart => exact ⟨0, Nat.zero_le _, rfl, Below.refl _ _, fun h => absurd h (by decide), fun h => by cases h⟩
  case round =>
    obtain ⟨k, hk, rfl, hI⟩ := hrel
    by_cases hlt : k < 2
    · have HXR := Lib.hid (bl_heap hI.out.1 HX.out)
      have hsz := HSZ.out
      by_cases hk0 : k = 0
      · obtain rfl : k = 0 := by omega
        have x0 := cell_blk HXR.out 0 rfl
        have x1 := cell_blk HXR.out 1 rfl
        have x2 := cell_blk HXR.out 2 rfl
        have x3 := cell_blk HXR.out 3 rfl
        have x4 := cell_blk HXR.out 4 rfl
        have x5 := cell_blk HXR.out 5 rfl
        have HB0 := Lib.hid (bl_alloc hI.out.1 (.cells #[.int .i64 kda, .string nma, .string txa, .slice aka nka cka, .slice a1a n1a c1a, .slice a2a n2a c2a] 25))
        go_wp2_with (first
          | (go_at_call 16; refine (HKa.out _ (HM.out.trans (mle_below HBP.out))).mono ?_; rintro e w3 ⟨kd', ak', nk', ck', a1', n1', c1', a2', n2', c2', rfl, hmv, hb1⟩; have HMV2 := Lib.hid hmv; have HBS := Lib.hid (bl_trans HBP.out hb1); clear hmv hb1)
          | (go_at_call 16; refine (HKa.out _ (HM.out.trans (mle_below HB0.out))).mono ?_; rintro e w1 ⟨kd', ak', nk', ck', a1', n1', c1', a2', n2', c2', rfl, hmv, hb1⟩; have HMV := Lib.hid hmv; have HB1 := Lib.hid (bl_trans HB0.out hb1); have HX1 := Lib.hid (bl_heap hb1 (al_new (w := wr) (o := .cells #[.int .i64 kda, .string nma, .string txa, .slice aka nka cka, .slice a1a n1a c1a, .slice a2a n2a c2a] 25) rfl)); clear hmv hb1)
          | (go_at_call 35; refine (HPa.out _ _ _ _ _ _ _ _ _ _ _ _ HMV.out (fr_le (HM.out.trans (mle_below HB1.out)))).mono ?_; rintro e w2 ⟨b, rfl, hp, hb2⟩; have HPT := Lib.hid hp; have HBP := Lib.hid (bl_trans HB1.out hb2); have HX2 := Lib.hid (bl_heap hb2 HX1.out); clear hp hb2; clear x0 x1 x2 x3 x4 x5; obtain ⟨y0, y1, y2, y3, y4, y5⟩ := cells6 HX2.out; have y6 := lt_blk HX2.out; cases b)
          | (go_at_call 36; refine (HSa.out _ _ _ _ _ _ _ _ _ _ _ _ HMV2.out (fr_le (HM.out.trans (mle_below HBS.out)))).mono ?_; rintro e w4 ⟨n, hn, rfl, hb4⟩; have HBE := Lib.hid (bl_trans HBS.out hb4); clear hn hb4))
        · go_ret
          exact ⟨_, rfl, (fun h => by cases h), HBP.out⟩
        · go_ret
          exact ⟨_, rfl, (fun h => by cases h), HBE.out⟩
        · exact ⟨⟨1, by omega, rfl, ⟨HBE.out, fun _ => pt_kindOf (HPT.out (by simp)), fun h => by cases h⟩⟩, by simp [intOf]⟩
      · obtain rfl : k = 1 := by omega
        have x0 := cell_blk HXR.out 6 rfl
        have x1 := cell_blk HXR.out 7 rfl
        have x2 := cell_blk HXR.out 8 rfl
        have x3 := cell_blk HXR.out 9 rfl
        have x4 := cell_blk HXR.out 10 rfl
        have x5 := cell_blk HXR.out 11 rfl
        have HB0 := Lib.hid (bl_alloc hI.out.1 (.cells #[.int .i64 kdb, .string nmb, .string txb, .slice akb nkb ckb, .slice a1b n1b c1b, .slice a2b n2b c2b] 25))
        go_wp2_with (first
          | (go_at_call 16; refine (HKb.out _ (HM.out.trans (mle_below HBP.out))).mono ?_; rintro e w3 ⟨kd', ak', nk', ck', a1', n1', c1', a2', n2', c2', rfl, hmv, hb1⟩; have HMV2 := Lib.hid hmv; have HBS := Lib.hid (bl_trans HBP.out hb1); clear hmv hb1)
          | (go_at_call 16; refine (HKb.out _ (HM.out.trans (mle_below HB0.out))).mono ?_; rintro e w1 ⟨kd', ak', nk', ck', a1', n1', c1', a2', n2', c2', rfl, hmv, hb1⟩; have HMV := Lib.hid hmv; have HB1 := Lib.hid (bl_trans HB0.out hb1); have HX1 := Lib.hid (bl_heap hb1 (al_new (w := wr) (o := .cells #[.int .i64 kdb, .string nmb, .string txb, .slice akb nkb ckb, .slice a1b n1b c1b, .slice a2b n2b c2b] 25) rfl)); clear hmv hb1)
          | (go_at_call 35; refine (HPb.out _ _ _ _ _ _ _ _ _ _ _ _ HMV.out (fr_le (HM.out.trans (mle_below HB1.out)))).mono ?_; rintro e w2 ⟨b, rfl, hp, hb2⟩; have HPT := Lib.hid hp; have HBP := Lib.hid (bl_trans HB1.out hb2); have HX2 := Lib.hid (bl_heap hb2 HX1.out); clear hp hb2; clear x0 x1 x2 x3 x4 x5; obtain ⟨y0, y1, y2, y3, y4, y5⟩ := cells6 HX2.out; have y6 := lt_blk HX2.out; cases b)
          | (go_at_call 36; refine (HSb.out _ _ _ _ _ _ _ _ _ _ _ _ HMV2.out (fr_le (HM.out.trans (mle_below HBS.out)))).mono ?_; rintro e w4 ⟨n, hn, rfl, hb4⟩; have HBE := Lib.hid (bl_trans HBS.out hb4); clear hn hb4))
        · go_ret
          exact ⟨_, rfl, (fun h => by cases h), HBP.out⟩
        · go_ret
          exact ⟨_, rfl, (fun h => by cases h), HBE.out⟩
        · exact ⟨⟨2, by omega, rfl, ⟨HBE.out, fun _ => hI.out.2.1 (Nat.le_refl _), fun _ => pt_kindOf (HPT.out (by simp))⟩⟩, by simp [intOf]⟩
    · obtain rfl : k = 2 := by omega
      go_wp2
      go_ret
      exact ⟨_, rfl, fun _ => ⟨hI.out.2.1 (by decide), hI.out.2.2 (by simp)⟩, hI.out.1⟩
end Go.Proofs.YtaglgokeejjagaaGreat
