/- 'Proper': types of values, with different keys. -/
import Derived.Test.YtaglgokeejjagaaGreatSiz
namespace Go.Proofs.YtaglgokeejjagaaGreat
set_option linter.unusedVariables false
set_option linter.unusedSimpArgs false
open Go.RowKit Go.Sort Go.Proofs.YtaglgokeejjagaaGreatW.PrintLast

def KyOk (k : Ky) : Prop := (k.kind = 0 ∨ k.kind = 1 ∨ k.kind = 2 ∨ k.kind = 4) ∧ (k.kind = 4 ∨ k.text.toList = [])
/-- A type of values. -/
inductive PT : ST → Prop
  | mk {t : ST} (hs : ShP t) (hk : t.kind = 6 ∨ t.keys.length = 0) (ho : ∀ i (h : i < t.keys.length), KyOk t.keys[i]) (hd : ∀ i (h : i < t.keys.length) j (hj : j < i), t.keys[j] ≠ t.keys[i]) (hc : ∀ k, k ∈ t.kids ∨ k ∈ t.more → PT k) : PT t
def PrQ (t : ST) (w : World) (e : Ending) (w' : World) : Prop := ∃ b, e = .returned (.bool b) ∧ (b = true → PT t) ∧ Below w.heap.size w w'
theorem PrQ.no {t : ST} {w w' : World} (h : Below w.heap.size w w') : PrQ t w (.returned (.bool false)) w' := ⟨_, rfl, (fun h => by cases h), h⟩
def PrOk (t : ST) : Prop := ∀ (m : Mem) (kd : Int) (ak a1 a2 : Option Addr) (nk ck n1 c1 n2 c2 : Nat) (w : World), MST m (stCells kd ak nk ck a1 n1 c1 a2 n2 c2) t → WS t ≤ 1000000 → MLe m w.cell? →
  Calls Tryz.prog 35 #[.agg #[.int .i64 kd, .slice ak nk ck, .slice a1 n1 c1, .slice a2 n2 c2]] w (PrQ t w)

theorem ws_in {t k : ST} (h : k ∈ t.kids ∨ k ∈ t.more) : WS k ≤ WS t := by
  have e := WS_eq t
  rcases h with h | h
  · have := le_sum WS h; omega
  · have := le_sum WS h; omega

set_option maxHeartbeats 4000000 in
set_option maxRecDepth 100000 in
theorem proper_step {t : ST} (IH : Hid (∀ k, k ∈ t.kids ∨ k ∈ t.more → PrOk k)) : PrOk t := by
  intro m kd ak a1 a2 nk ck n1 c1 n2 c2 w hv hw hm
  have HV := Lib.hid (fun (W : World) (h : MLe m W.cell?) => shaped_any (w := W) hv h)
  obtain ⟨rfl, rfl, rfl, rfl, ⟨lk1, lk2⟩, ⟨l11, l12⟩, ⟨l21, l22⟩, rk, r1, r2⟩ := hv.open
  have H0 := Lib.hid rk
  have H1 := Lib.hid r1
  have H2 := Lib.hid r2
  have HM := Lib.hid hm
  have HLO := Lib.hid (lo_of_mle hm)
  have HW := Lib.hid hw
  have HL := Lib.hid (show t.kids.length ≤ 1000000 ∧ t.more.length ≤ 1000000 ∧ t.kids.length + t.more.length ≤ 1000000 by
    have h := WS_eq t
    have h1 := sum_ge WS WS_pos t.kids
    have h2 := sum_ge WS WS_pos t.more
    omega)
  clear rk r1 r2 hm hv hw
  go_enter Tryz.func35, Tryz.ntmps35
  go_wp2_with fail
  have HX0 := Lib.hid (al_new (w := w) (o := .cells #[.int .i64 t.kind, .slice ak t.keys.length ck, .slice a1 t.kids.length c1, .slice a2 t.more.length c2] 42) rfl)
  have HB0 := Lib.hid (bl_alloc (Below.refl _ w) (.cells #[.int .i64 t.kind, .slice ak t.keys.length ck, .slice a1 t.kids.length c1, .slice a2 t.more.length c2] 42))
  generalize (w.alloc (.cells #[.int .i64 t.kind, .slice ak t.keys.length ck, .slice a1 t.kids.length c1, .slice a2 t.more.length c2] 42)) = W0 at HX0 HB0 ⊢
  obtain ⟨y0, y1, y2, y3⟩ := cells4 HX0.out
  have y4 := lt_blk HX0.out
  go_wp2_with (go_at_call 55; refine (HV.out _ (HM.out.trans (mle_below HB0.out))).mono ?_; rintro e W ⟨b, rfl, hsh, hg⟩; have HG := Lib.hid hg; have HSH := Lib.hid hsh; have HX1 := Lib.hid (bl_heap hg.below HX0.out); clear y0 y1 y2 y3 y4; obtain ⟨y0, y1, y2, y3⟩ := cells4 HX1.out; have y4 := lt_blk HX1.out; clear hsh hg; cases b)
  · go_ret
    exact PrQ.no (bl_trans HB0.out HG.out.below)
  · rename t.kind = 6 => hz
    have HK := Lib.hid (show t.kind = 6 ∨ t.keys.length = 0 from .inl hz)
    clear hz
    have HBW := Lib.hid (bl_trans HB0.out HG.out.below)
    have HM1 := Lib.hid (HM.out.trans (mle_below HBW.out))
    clear y0 y1 y2 y3 y4
    go_loopw [26] (fun i wr => ∃ k : Nat, k ≤ t.keys.length ∧ i = .int .i64 k ∧ Hid (
      wr.heap[w.heap.size]? = some (.cells #[.int .i64 t.kind, .slice ak t.keys.length ck, .slice a1 t.kids.length c1, .slice a2 t.more.length c2] 42 (0, 0)) ∧ Below W.heap.size W wr ∧ (∀ i (h : i < t.keys.length), i < k → KyOk t.keys[i] ∧ ∀ j (hj : j < i), t.keys[j] ≠ t.keys[i]))) (fun i _ => t.keys.length - (intOf i).toNat)
    case atStart => exact ⟨0, Nat.zero_le _, rfl, HX1.out, Below.refl _ _, fun j h hj => absurd hj (Nat.not_lt_zero _)⟩
    case round =>
      obtain ⟨k, hk, rfl, hI⟩ := hrel
      obtain ⟨x0, x1, x2, x3⟩ := cells4 hI.out.1
      have hbo : w.heap.size < wr.heap.size := lt_blk hI.out.1
      by_cases hlt : k < t.keys.length
      · obtain ⟨b, off, ea, e0, e1⟩ := H0.out.at hlt
        subst ea
        have hm1 := HM1.out.trans (mle_below hI.out.2.1)
        replace e0 := hm1 _ _ e0
        replace e1 := hm1 _ _ e1
        have HM2 := Lib.hid hm1
        clear hm1
        have hkc : k ≤ ck := by omega
        obtain ⟨kd, tx, hkt⟩ : ∃ kd tx, t.keys[k] = ⟨kd, tx⟩ := ⟨_, _, rfl⟩
        rw [hkt] at e0 e1
        have HKT := Lib.hid hkt
        clear hkt
        go_wp2
        any_goals
          go_ret
          refine PrQ.no (bl_trans HBW.out ?_)
          repeat (first | exact hI.out.2.1 | refine bl_alloc ?_ _)
        all_goals
          have HKO := Lib.hid (show KyOk t.keys[k] by
            rw [HKT.out]
            refine ⟨by simp only []; omega, ?_⟩
            first
            | (right; rename (!tx.toList.isEmpty) = false => hz; simpa using hz)
            | (left; assumption))
          rename kd = _ => hq
          subst hq
          go_wp2
          go_loopw [64] (fun i w2 => ∃ j : Nat, j ≤ k ∧ i = .int .i64 j ∧ Hid (
            w2.heap[w.heap.size]? = some (.cells #[.int .i64 t.kind, .slice (some ⟨b, off, none⟩) t.keys.length ck, .slice a1 t.kids.length c1, .slice a2 t.more.length c2] 42 (0, 0)) ∧
            (∃ kd, t.keys[k] = ⟨kd, tx⟩ ∧ w2.heap[wr.heap.size]? = some (.cells #[.int .i64 kd, .string tx] 85 (0, 0))) ∧ Below W.heap.size W w2 ∧ (∀ j' (h : j' < t.keys.length), j' < j → t.keys[j'] ≠ t.keys[k]))) (fun i _ => k - (intOf i).toNat)
          case atStart => exact ⟨0, Nat.zero_le _, rfl, al_old hI.out.1, ⟨_, HKT.out, al_new rfl⟩, bl_alloc hI.out.2.1 _, fun j' h hj => absurd hj (Nat.not_lt_zero _)⟩
          case round =>
            obtain ⟨j, hj, rfl, hJ⟩ := hrel
            by_cases hltj : j < k
            · obtain ⟨kd, hkd, hK2⟩ := hJ.out.2.1
              have HKD := Lib.hid hkd
              obtain ⟨v0, v1⟩ := cells2 hK2
              have v2 := lt_blk hK2
              have hjl : j < t.keys.length := by omega
              obtain ⟨b', off', eb, f0, f1⟩ := H0.out.at hjl
              cases eb
              have hm1 := HM1.out.trans (mle_below hJ.out.2.2.1)
              replace f0 := hm1 _ _ f0
              replace f1 := hm1 _ _ f1
              obtain ⟨kj, tj, hkt⟩ : ∃ kd tx, t.keys[j] = ⟨kd, tx⟩ := ⟨_, _, rfl⟩
              rw [hkt] at f0 f1
              have HKJ := Lib.hid hkt
              have HK2 := Lib.hid hK2
              clear hkt hm1 hkd hK2
              go_wp2
              any_goals
                go_ret
                refine PrQ.no (bl_trans HBW.out ?_)
                repeat (first | exact hJ.out.2.2.1 | refine bl_alloc ?_ _)
              all_goals
                go_roundw
                case rel =>
                  refine ⟨j + 1, by omega, by go_num, al_old hJ.out.1, ⟨kd, HKD.out, al_old HK2.out⟩, bl_alloc hJ.out.2.2.1 _, fun j' h hj' => ?_⟩
                  by_cases e : j' < j
                  · exact hJ.out.2.2.2 j' h e
                  · obtain rfl : j' = j := by omega
                    rw [HKJ.out, HKD.out]
                    intro e2
                    injection e2 with e3 e4
                    first
                    | exact absurd e3 (by assumption)
                    | exact absurd (congrArg ByteArray.toList e4) (by assumption)
                case measure => simp [intOf]; omega
            · obtain rfl : j = k := by omega
              go_wp2
              go_roundw
              case rel => exact ⟨j + 1, by omega, by go_num, hJ.out.1, hJ.out.2.2.1, fun i h hi => by
                by_cases e : i < j
                · exact hI.out.2.2 i h e
                · obtain rfl : i = j := by omega
                  exact ⟨HKO.out, fun j' hj' => hJ.out.2.2.2 j' (by omega) hj'⟩⟩
              case measure => simp [intOf]; omega
      · obtain rfl : k = t.keys.length := by omega
        have HKS := Lib.hid hI.out.2.2
        have HXR := Lib.hid hI.out.1
        have HBR := Lib.hid (bl_trans HBW.out hI.out.2.1)
        have HMR := Lib.hid (HM1.out.trans (mle_below hI.out.2.1))
        have HLOR := Lib.hid (HLO.out.mono HBR.out.size)
        clear hI
        go_wp2_with fail
        refine start_ (n := 9) (S := fun w' => w'.cell? ⟨w.heap.size, 2, none⟩ = some (.slice a1 t.kids.length c1) ∧ w'.cell? ⟨w.heap.size, 3, none⟩ = some (.slice a2 t.more.length c2)) (ds := []) (lb 9 0) (by kernel_rfl) rfl rfl ⟨cell_blk HXR.out 2 rfl, cell_blk HXR.out 3 rfl⟩ (fun hHeld => ?_)
        refine pure_ (i := 1) (N := some 74) (v := ?_) (a' := ?_) (lb 9 2) rfl rfl (by kernel_rfl) (fun _ _ _ h => h) (Or.inl ⟨by rfl, ?_⟩) ?_ ?_
        rotate_left
        · intro w'
          go_simp
          with_reducible rfl
        rotate_left
        · simp only [Act.put, nrA, nrB, nrC, i64_w, i32_w]
          rfl
        refine pure_ (i := 4) (N := some 77) (v := ?_) (a' := ?_) (lb 9 18) rfl rfl (by kernel_rfl) (fun _ _ _ h => h) (Or.inl ⟨by rfl, ?_⟩) ?_ ?_
        rotate_left
        · intro w'
          go_simp
          with_reducible rfl
        rotate_left
        · simp only [Act.put, nrA, nrB, nrC, i64_w, i32_w]
          rfl
        refine pure_ (i := 8) (N := some 81) (v := ?_) (a' := ?_) (lb 9 274) rfl rfl (by kernel_rfl) (fun _ _ _ h => h) (Or.inl ⟨by rfl, ?_⟩) ?_ ?_
        rotate_left
        · intro w'
          go_simp
          with_reducible rfl
        rotate_left
        · simp only [Act.put, nrA, nrB, nrC, i64_w, i32_w]
          rfl
        refine take_ (i := 2) (N := some 75) (v := ?_) (a' := ?_) (lb 9 278) rfl rfl (by kernel_rfl) (fun _ _ _ h => h) (Or.inl ⟨by rfl, ?_⟩) hHeld ?_ ?_
        rotate_left
        · rintro w' ⟨s0, s1⟩
          go_simp
          with_reducible rfl
        rotate_left
        · simp only [Act.put, nrA, nrB, nrC, i64_w, i32_w]
          rfl
        refine take_ (i := 5) (N := some 78) (v := ?_) (a' := ?_) (lb 9 310) rfl rfl (by kernel_rfl) (fun _ _ _ h => h) (Or.inl ⟨by rfl, ?_⟩) hHeld ?_ ?_
        rotate_left
        · rintro w' ⟨s0, s1⟩
          go_simp
          with_reducible rfl
        rotate_left
        · simp only [Act.put, nrA, nrB, nrC, i64_w, i32_w]
          rfl
        refine one_ (i := 0) (N := some 73) (lb 9 311) rfl rfl (by kernel_rfl) (by decide) (fun K hK => ?_)
        refine value_ (w1 := ?_) (v := ?_) (by rfl) rfl ?_ ?_
        rotate_left 2
        · go_simp
          constructor
          · rfl
          · rfl
        have HO1 := Lib.hid (Own.made42 (m := m) (B := wr.heap.size) (w := wr.drew) (Nat.le_refl _))
        have HX1 := Lib.hid (al_old (o := .cells #[] 42) HXR.out)
        refine hK.out _ _ ⟨cell_blk HX1.out 2 rfl, cell_blk HX1.out 3 rfl⟩ (fun hHeld => ?_)
        clear hK K
        refine norm_ (a' := ?_) ?_ ?_
        rotate_left
        · show Act.put _ (some 73) _ = _
          simp only [Act.put, nrA, nrB, nrC, i64_w, i32_w]
          rfl
        refine one_ (i := 3) (N := some 76) (lb 9 319) rfl rfl (by kernel_rfl) (by decide) (fun K hK => ?_)
        refine step_cat rfl _ _ _ rfl sl40 HLOR.out (mle_alloc HMR.out _) _ _ rfl HO1.out _ _ _ rfl H1.out (by have := HL.out; simp [maxLen]; omega) (by have := HL.out; simp; omega) (by simp) ?_
        intro p3 q3 r3 w3 ho3 hg3 hk3
        have HO3 := Lib.hid ho3
        have HG3 := Lib.hid hg3
        have HX3 := Lib.hid (grown_heap hg3 HX1.out (fun k e => by have := hk3 k e; have := lt_blk HXR.out; omega))
        have HB3 := Lib.hid (bl_grown (bl_alloc (Below.refl _ wr.drew) (.cells #[] 42)) hg3 hk3)
        clear ho3 hg3 hk3
        refine hK.out _ _ ⟨cell_blk HX3.out 2 rfl, cell_blk HX3.out 3 rfl⟩ (fun hHeld => ?_)
        clear hK K
        refine norm_ (a' := ?_) ?_ ?_
        rotate_left
        · show Act.put _ (some 76) _ = _
          simp only [Act.put, nrA, nrB, nrC, i64_w, i32_w]
          rfl
        refine one_ (i := 6) (N := some 79) (lb 9 383) rfl rfl (by kernel_rfl) (by decide) (fun K hK => ?_)
        refine step_cat rfl _ _ _ rfl sl40 HLOR.out ((show MLe m wr.drew.cell? from HMR.out).trans (mle_below HB3.out)) _ _ rfl HO3.out _ _ _ rfl H2.out (by have := HL.out; simp [maxLen]; omega) (by have := HL.out; simp; omega) HB3.out.size ?_
        intro p4 q4 r4 w4 ho4 hg4 hk4
        have HO4 := Lib.hid ho4
        have HX4 := Lib.hid (grown_heap hg4 HX3.out (fun k e => by have := hk4 k e; have := lt_blk HXR.out; omega))
        have HB4 := Lib.hid (bl_grown HB3.out hg4 hk4)
        clear ho4 hg4 hk4
        refine hK.out _ _ ⟨cell_blk HX4.out 2 rfl, cell_blk HX4.out 3 rfl⟩ (fun hHeld => ?_)
        clear hK K
        refine norm_ (a' := ?_) ?_ ?_
        rotate_left
        · show Act.put _ (some 79) _ = _
          simp only [Act.put, nrA, nrB, nrC, i64_w, i32_w]
          rfl
        refine pure_ (i := 7) (N := some 80) (v := ?_) (a' := ?_) (lb 9 511) rfl rfl (by kernel_rfl) (fun _ _ _ h => h) (Or.inl ⟨by rfl, ?_⟩) ?_ ?_
        rotate_left
        · intro w'
          go_simp
          with_reducible rfl
        rotate_left
        · simp only [Act.put, nrA, nrB, nrC, i64_w, i32_w]
          rfl
        refine done_ (by kernel_rfl) ?_
        obtain ⟨a4, c4, heq, lk4, row4⟩ := HO4.out.rowST
        cases heq
        have HLL := Lib.hid (fun k (hk : k ∈ [] ++ t.kids ++ t.more) => show WS k ≤ 1000000 from Nat.le_trans (ws_in (List.mem_append.1 hk)) HW.out)
        obtain ⟨lk41, lk42⟩ := lk4
        have HM4 := Lib.hid (fr_le (B := wr.heap.size) (r := none) ((show MLe m wr.drew.cell? from HMR.out).trans (mle_below HB4.out)))
        have HR4 := Lib.hid row4
        have HBF := Lib.hid (bl_trans HBR.out.drew HB4.out)
        clear row4
        have HI4 := Lib.hid (fun k (hk : k ∈ [] ++ t.kids ++ t.more) => IH.out k (List.mem_append.1 hk))
        have HC := Lib.hid (fun k (hk : k ∈ t.kids ∨ k ∈ t.more) => show k ∈ [] ++ t.kids ++ t.more from List.mem_append.2 hk)
        generalize [] ++ t.kids ++ t.more = l at *
        go_wp2
        go_loopw [81] (fun i wr => ∃ k : Nat, k ≤ l.length ∧ i = .int .i64 k ∧ Hid (Below w4.heap.size w4 wr ∧ ∀ j (h : j < l.length), j < k → PT l[j])) (fun i _ => l.length - (intOf i).toNat)
        case atStart => exact ⟨0, Nat.zero_le _, rfl, Below.refl _ _, fun j h hj => absurd hj (Nat.not_lt_zero _)⟩
        case round =>
          obtain ⟨k, hk, rfl, hI⟩ := hrel
          by_cases hlt : k < l.length
          · obtain ⟨b, off, kd', ak', nk', ck', a1', n1', c1', a2', n2', c2', ea, e0, e1, e2, e3, hkv⟩ := HR4.out.at hlt
            subst ea
            have hm1 := HM4.out.trans (mle_below hI.out.1)
            replace e0 := hm1 _ _ e0
            replace e1 := hm1 _ _ e1
            replace e2 := hm1 _ _ e2
            replace e3 := hm1 _ _ e3
            have HM5 := Lib.hid hm1
            have HKV := Lib.hid hkv
            clear hkv hm1
            go_wp2_with (go_at_call 35; refine (HI4.out _ (List.getElem_mem hlt) _ _ _ _ _ _ _ _ _ _ _ _ HKV.out (HLL.out _ (List.getElem_mem hlt)) (mle_alloc HM5.out _)).mono ?_; rintro e w5 ⟨x, rfl, hx, hb⟩; have HB5 := Lib.hid hb; have HPX := Lib.hid hx; clear hb hx; cases x)
            · go_ret
              exact PrQ.no (bl_trans HBF.out (bl_trans (bl_alloc hI.out.1 _) HB5.out))
            · go_roundw
              case rel =>
                refine ⟨k + 1, by omega, by go_num, bl_trans (bl_alloc hI.out.1 _) HB5.out, fun j h hj => ?_⟩
                by_cases e : j < k
                · exact hI.out.2 j h e
                · obtain rfl : j = k := by omega
                  exact HPX.out trivial
              case measure => simp [intOf]; omega
          · obtain rfl : k = l.length := by omega
            go_wp2
            go_ret
            exact ⟨_, rfl, fun _ => .mk (HSH.out trivial) HK.out (fun i h => (HKS.out i h h).1) (fun i h j hj => (HKS.out i h h).2 j hj) (fun x hx => by
              obtain ⟨i, hi, e⟩ := List.getElem_of_mem (HC.out x hx)
              rw [← e]; exact hI.out.2 i hi hi), bl_trans HBF.out hI.out.1⟩
  · go_ret
    exact PrQ.no (bl_trans HB0.out HG.out.below)
  · rename ¬t.kind = 6 => hy
    rename (t.kind != 6) = false ∨ ¬0 < t.keys.length => hz
    have HK := Lib.hid (show t.kind = 6 ∨ t.keys.length = 0 by
      rcases hz with hz | hz
      · simp at hz; exact .inl hz
      · omega)
    clear hy hz
    have HBW := Lib.hid (bl_trans HB0.out HG.out.below)
    have HM1 := Lib.hid (HM.out.trans (mle_below HBW.out))
    clear y0 y1 y2 y3 y4
    go_loopw [26] (fun i wr => ∃ k : Nat, k ≤ t.keys.length ∧ i = .int .i64 k ∧ Hid (
      wr.heap[w.heap.size]? = some (.cells #[.int .i64 t.kind, .slice ak t.keys.length ck, .slice a1 t.kids.length c1, .slice a2 t.more.length c2] 42 (0, 0)) ∧ Below W.heap.size W wr ∧ (∀ i (h : i < t.keys.length), i < k → KyOk t.keys[i] ∧ ∀ j (hj : j < i), t.keys[j] ≠ t.keys[i]))) (fun i _ => t.keys.length - (intOf i).toNat)
    case atStart => exact ⟨0, Nat.zero_le _, rfl, HX1.out, Below.refl _ _, fun j h hj => absurd hj (Nat.not_lt_zero _)⟩
    case round =>
      obtain ⟨k, hk, rfl, hI⟩ := hrel
      obtain ⟨x0, x1, x2, x3⟩ := cells4 hI.out.1
      have hbo : w.heap.size < wr.heap.size := lt_blk hI.out.1
      by_cases hlt : k < t.keys.length
      · obtain ⟨b, off, ea, e0, e1⟩ := H0.out.at hlt
        subst ea
        have hm1 := HM1.out.trans (mle_below hI.out.2.1)
        replace e0 := hm1 _ _ e0
        replace e1 := hm1 _ _ e1
        have HM2 := Lib.hid hm1
        clear hm1
        have hkc : k ≤ ck := by omega
        obtain ⟨kd, tx, hkt⟩ : ∃ kd tx, t.keys[k] = ⟨kd, tx⟩ := ⟨_, _, rfl⟩
        rw [hkt] at e0 e1
        have HKT := Lib.hid hkt
        clear hkt
        go_wp2
        any_goals
          go_ret
          refine PrQ.no (bl_trans HBW.out ?_)
          repeat (first | exact hI.out.2.1 | refine bl_alloc ?_ _)
        all_goals
          have HKO := Lib.hid (show KyOk t.keys[k] by
            rw [HKT.out]
            refine ⟨by simp only []; omega, ?_⟩
            first
            | (right; rename (!tx.toList.isEmpty) = false => hz; simpa using hz)
            | (left; assumption))
          rename kd = _ => hq
          subst hq
          go_wp2
          go_loopw [64] (fun i w2 => ∃ j : Nat, j ≤ k ∧ i = .int .i64 j ∧ Hid (
            w2.heap[w.heap.size]? = some (.cells #[.int .i64 t.kind, .slice (some ⟨b, off, none⟩) t.keys.length ck, .slice a1 t.kids.length c1, .slice a2 t.more.length c2] 42 (0, 0)) ∧
            (∃ kd, t.keys[k] = ⟨kd, tx⟩ ∧ w2.heap[wr.heap.size]? = some (.cells #[.int .i64 kd, .string tx] 85 (0, 0))) ∧ Below W.heap.size W w2 ∧ (∀ j' (h : j' < t.keys.length), j' < j → t.keys[j'] ≠ t.keys[k]))) (fun i _ => k - (intOf i).toNat)
          case atStart => exact ⟨0, Nat.zero_le _, rfl, al_old hI.out.1, ⟨_, HKT.out, al_new rfl⟩, bl_alloc hI.out.2.1 _, fun j' h hj => absurd hj (Nat.not_lt_zero _)⟩
          case round =>
            obtain ⟨j, hj, rfl, hJ⟩ := hrel
            by_cases hltj : j < k
            · obtain ⟨kd, hkd, hK2⟩ := hJ.out.2.1
              have HKD := Lib.hid hkd
              obtain ⟨v0, v1⟩ := cells2 hK2
              have v2 := lt_blk hK2
              have hjl : j < t.keys.length := by omega
              obtain ⟨b', off', eb, f0, f1⟩ := H0.out.at hjl
              cases eb
              have hm1 := HM1.out.trans (mle_below hJ.out.2.2.1)
              replace f0 := hm1 _ _ f0
              replace f1 := hm1 _ _ f1
              obtain ⟨kj, tj, hkt⟩ : ∃ kd tx, t.keys[j] = ⟨kd, tx⟩ := ⟨_, _, rfl⟩
              rw [hkt] at f0 f1
              have HKJ := Lib.hid hkt
              have HK2 := Lib.hid hK2
              clear hkt hm1 hkd hK2
              go_wp2
              any_goals
                go_ret
                refine PrQ.no (bl_trans HBW.out ?_)
                repeat (first | exact hJ.out.2.2.1 | refine bl_alloc ?_ _)
              all_goals
                go_roundw
                case rel =>
                  refine ⟨j + 1, by omega, by go_num, al_old hJ.out.1, ⟨kd, HKD.out, al_old HK2.out⟩, bl_alloc hJ.out.2.2.1 _, fun j' h hj' => ?_⟩
                  by_cases e : j' < j
                  · exact hJ.out.2.2.2 j' h e
                  · obtain rfl : j' = j := by omega
                    rw [HKJ.out, HKD.out]
                    intro e2
                    injection e2 with e3 e4
                    first
                    | exact absurd e3 (by assumption)
                    | exact absurd (congrArg ByteArray.toList e4) (by assumption)
                case measure => simp [intOf]; omega
            · obtain rfl : j = k := by omega
              go_wp2
              go_roundw
              case rel => exact ⟨j + 1, by omega, by go_num, hJ.out.1, hJ.out.2.2.1, fun i h hi => by
                by_cases e : i < j
                · exact hI.out.2.2 i h e
                · obtain rfl : i = j := by omega
                  exact ⟨HKO.out, fun j' hj' => hJ.out.2.2.2 j' (by omega) hj'⟩⟩
              case measure => simp [intOf]; omega
      · obtain rfl : k = t.keys.length := by omega
        have HKS := Lib.hid hI.out.2.2
        have HXR := Lib.hid hI.out.1
        have HBR := Lib.hid (bl_trans HBW.out hI.out.2.1)
        have HMR := Lib.hid (HM1.out.trans (mle_below hI.out.2.1))
        have HLOR := Lib.hid (HLO.out.mono HBR.out.size)
        clear hI
        go_wp2_with fail
        refine start_ (n := 9) (S := fun w' => w'.cell? ⟨w.heap.size, 2, none⟩ = some (.slice a1 t.kids.length c1) ∧ w'.cell? ⟨w.heap.size, 3, none⟩ = some (.slice a2 t.more.length c2)) (ds := []) (lb 9 0) (by kernel_rfl) rfl rfl ⟨cell_blk HXR.out 2 rfl, cell_blk HXR.out 3 rfl⟩ (fun hHeld => ?_)
        refine pure_ (i := 1) (N := some 74) (v := ?_) (a' := ?_) (lb 9 2) rfl rfl (by kernel_rfl) (fun _ _ _ h => h) (Or.inl ⟨by rfl, ?_⟩) ?_ ?_
        rotate_left
        · intro w'
          go_simp
          with_reducible rfl
        rotate_left
        · simp only [Act.put, nrA, nrB, nrC, i64_w, i32_w]
          rfl
        refine pure_ (i := 4) (N := some 77) (v := ?_) (a' := ?_) (lb 9 18) rfl rfl (by kernel_rfl) (fun _ _ _ h => h) (Or.inl ⟨by rfl, ?_⟩) ?_ ?_
        rotate_left
        · intro w'
          go_simp
          with_reducible rfl
        rotate_left
        · simp only [Act.put, nrA, nrB, nrC, i64_w, i32_w]
          rfl
        refine pure_ (i := 8) (N := some 81) (v := ?_) (a' := ?_) (lb 9 274) rfl rfl (by kernel_rfl) (fun _ _ _ h => h) (Or.inl ⟨by rfl, ?_⟩) ?_ ?_
        rotate_left
        · intro w'
          go_simp
          with_reducible rfl
        rotate_left
        · simp only [Act.put, nrA, nrB, nrC, i64_w, i32_w]
          rfl
        refine take_ (i := 2) (N := some 75) (v := ?_) (a' := ?_) (lb 9 278) rfl rfl (by kernel_rfl) (fun _ _ _ h => h) (Or.inl ⟨by rfl, ?_⟩) hHeld ?_ ?_
        rotate_left
        · rintro w' ⟨s0, s1⟩
          go_simp
          with_reducible rfl
        rotate_left
        · simp only [Act.put, nrA, nrB, nrC, i64_w, i32_w]
          rfl
        refine take_ (i := 5) (N := some 78) (v := ?_) (a' := ?_) (lb 9 310) rfl rfl (by kernel_rfl) (fun _ _ _ h => h) (Or.inl ⟨by rfl, ?_⟩) hHeld ?_ ?_
        rotate_left
        · rintro w' ⟨s0, s1⟩
          go_simp
          with_reducible rfl
        rotate_left
        · simp only [Act.put, nrA, nrB, nrC, i64_w, i32_w]
          rfl
        refine one_ (i := 0) (N := some 73) (lb 9 311) rfl rfl (by kernel_rfl) (by decide) (fun K hK => ?_)
        refine value_ (w1 := ?_) (v := ?_) (by rfl) rfl ?_ ?_
        rotate_left 2
        · go_simp
          constructor
          · rfl
          · rfl
        have HO1 := Lib.hid (Own.made42 (m := m) (B := wr.heap.size) (w := wr.drew) (Nat.le_refl _))
        have HX1 := Lib.hid (al_old (o := .cells #[] 42) HXR.out)
        refine hK.out _ _ ⟨cell_blk HX1.out 2 rfl, cell_blk HX1.out 3 rfl⟩ (fun hHeld => ?_)
        clear hK K
        refine norm_ (a' := ?_) ?_ ?_
        rotate_left
        · show Act.put _ (some 73) _ = _
          simp only [Act.put, nrA, nrB, nrC, i64_w, i32_w]
          rfl
        refine one_ (i := 3) (N := some 76) (lb 9 319) rfl rfl (by kernel_rfl) (by decide) (fun K hK => ?_)
        refine step_cat rfl _ _ _ rfl sl40 HLOR.out (mle_alloc HMR.out _) _ _ rfl HO1.out _ _ _ rfl H1.out (by have := HL.out; simp [maxLen]; omega) (by have := HL.out; simp; omega) (by simp) ?_
        intro p3 q3 r3 w3 ho3 hg3 hk3
        have HO3 := Lib.hid ho3
        have HG3 := Lib.hid hg3
        have HX3 := Lib.hid (grown_heap hg3 HX1.out (fun k e => by have := hk3 k e; have := lt_blk HXR.out; omega))
        have HB3 := Lib.hid (bl_grown (bl_alloc (Below.refl _ wr.drew) (.cells #[] 42)) hg3 hk3)
        clear ho3 hg3 hk3
        refine hK.out _ _ ⟨cell_blk HX3.out 2 rfl, cell_blk HX3.out 3 rfl⟩ (fun hHeld => ?_)
        clear hK K
        refine norm_ (a' := ?_) ?_ ?_
        rotate_left
        · show Act.put _ (some 76) _ = _
          simp only [Act.put, nrA, nrB, nrC, i64_w, i32_w]
          rfl
        refine one_ (i := 6) (N := some 79) (lb 9 383) rfl rfl (by kernel_rfl) (by decide) (fun K hK => ?_)
        refine step_cat rfl _ _ _ rfl sl40 HLOR.out ((show MLe m wr.drew.cell? from HMR.out).trans (mle_below HB3.out)) _ _ rfl HO3.out _ _ _ rfl H2.out (by have := HL.out; simp [maxLen]; omega) (by have := HL.out; simp; omega) HB3.out.size ?_
        intro p4 q4 r4 w4 ho4 hg4 hk4
        have HO4 := Lib.hid ho4
        have HX4 := Lib.hid (grown_heap hg4 HX3.out (fun k e => by have := hk4 k e; have := lt_blk HXR.out; omega))
        have HB4 := Lib.hid (bl_grown HB3.out hg4 hk4)
        clear ho4 hg4 hk4
        refine hK.out _ _ ⟨cell_blk HX4.out 2 rfl, cell_blk HX4.out 3 rfl⟩ (fun hHeld => ?_)
        clear hK K
        refine norm_ (a' := ?_) ?_ ?_
        rotate_left
        · show Act.put _ (some 79) _ = _
          simp only [Act.put, nrA, nrB, nrC, i64_w, i32_w]
          rfl
        refine pure_ (i := 7) (N := some 80) (v := ?_) (a' := ?_) (lb 9 511) rfl rfl (by kernel_rfl) (fun _ _ _ h => h) (Or.inl ⟨by rfl, ?_⟩) ?_ ?_
        rotate_left
        · intro w'
          go_simp
          with_reducible rfl
        rotate_left
        · simp only [Act.put, nrA, nrB, nrC, i64_w, i32_w]
          rfl
        refine done_ (by kernel_rfl) ?_
        obtain ⟨a4, c4, heq, lk4, row4⟩ := HO4.out.rowST
        cases heq
        have HLL := Lib.hid (fun k (hk : k ∈ [] ++ t.kids ++ t.more) => show WS k ≤ 1000000 from Nat.le_trans (ws_in (List.mem_append.1 hk)) HW.out)
        obtain ⟨lk41, lk42⟩ := lk4
        have HM4 := Lib.hid (fr_le (B := wr.heap.size) (r := none) ((show MLe m wr.drew.cell? from HMR.out).trans (mle_below HB4.out)))
        have HR4 := Lib.hid row4
        have HBF := Lib.hid (bl_trans HBR.out.drew HB4.out)
        clear row4
        have HI4 := Lib.hid (fun k (hk : k ∈ [] ++ t.kids ++ t.more) => IH.out k (List.mem_append.1 hk))
        have HC := Lib.hid (fun k (hk : k ∈ t.kids ∨ k ∈ t.more) => show k ∈ [] ++ t.kids ++ t.more from List.mem_append.2 hk)
        generalize [] ++ t.kids ++ t.more = l at *
        go_wp2
        go_loopw [81] (fun i wr => ∃ k : Nat, k ≤ l.length ∧ i = .int .i64 k ∧ Hid (Below w4.heap.size w4 wr ∧ ∀ j (h : j < l.length), j < k → PT l[j])) (fun i _ => l.length - (intOf i).toNat)
        case atStart => exact ⟨0, Nat.zero_le _, rfl, Below.refl _ _, fun j h hj => absurd hj (Nat.not_lt_zero _)⟩
        case round =>
          obtain ⟨k, hk, rfl, hI⟩ := hrel
          by_cases hlt : k < l.length
          · obtain ⟨b, off, kd', ak', nk', ck', a1', n1', c1', a2', n2', c2', ea, e0, e1, e2, e3, hkv⟩ := HR4.out.at hlt
            subst ea
            have hm1 := HM4.out.trans (mle_below hI.out.1)
            replace e0 := hm1 _ _ e0
            replace e1 := hm1 _ _ e1
            replace e2 := hm1 _ _ e2
            replace e3 := hm1 _ _ e3
            have HM5 := Lib.hid hm1
            have HKV := Lib.hid hkv
            clear hkv hm1
            go_wp2_with (go_at_call 35; refine (HI4.out _ (List.getElem_mem hlt) _ _ _ _ _ _ _ _ _ _ _ _ HKV.out (HLL.out _ (List.getElem_mem hlt)) (mle_alloc HM5.out _)).mono ?_; rintro e w5 ⟨x, rfl, hx, hb⟩; have HB5 := Lib.hid hb; have HPX := Lib.hid hx; clear hb hx; cases x)
            · go_ret
              exact PrQ.no (bl_trans HBF.out (bl_trans (bl_alloc hI.out.1 _) HB5.out))
            · go_roundw
              case rel =>
                refine ⟨k + 1, by omega, by go_num, bl_trans (bl_alloc hI.out.1 _) HB5.out, fun j h hj => ?_⟩
                by_cases e : j < k
                · exact hI.out.2 j h e
                · obtain rfl : j = k := by omega
                  exact HPX.out trivial
              case measure => simp [intOf]; omega
          · obtain rfl : k = l.length := by omega
            go_wp2
            go_ret
            exact ⟨_, rfl, fun _ => .mk (HSH.out trivial) HK.out (fun i h => (HKS.out i h h).1) (fun i h j hj => (HKS.out i h h).2 j hj) (fun x hx => by
              obtain ⟨i, hi, e⟩ := List.getElem_of_mem (HC.out x hx)
              rw [← e]; exact hI.out.2 i hi hi), bl_trans HBF.out hI.out.1⟩

theorem proper_n (n : Nat) : ∀ t, SizeOf.sizeOf t < n → PrOk t := by
  induction n with
  | zero => intro t h; exact absurd h (Nat.not_lt_zero _)
  | succ n ih => exact fun t hn => proper_step (Lib.hid fun k hk => ih k (by rcases hk with h | h; exact Nat.lt_of_lt_of_le (ST.lt_kid' h) (Nat.le_of_lt_succ hn); exact Nat.lt_of_lt_of_le (ST.lt_more' h) (Nat.le_of_lt_succ hn)))
theorem properT_any (t : ST) : PrOk t := proper_n _ t (Nat.lt_succ_self _)
end Go.Proofs.YtaglgokeejjagaaGreat
