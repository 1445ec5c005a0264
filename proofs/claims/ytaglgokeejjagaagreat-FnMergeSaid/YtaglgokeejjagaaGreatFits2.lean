/- The guards of types. -/
import Derived.Test.YtaglgokeejjagaaGreatOwn
/- The guards, 'works', 'TypeOf' of the thin package. -/
namespace Go.Proofs.YtaglgokeejjagaaGreat
set_option linter.unusedVariables false
set_option linter.unusedSimpArgs false
open Go.RowKit Go.Sort

def SomeB (w : World) (e : Ending) (w' : World) : Prop := ∃ b, e = .returned (.bool b) ∧ Gr w w'

set_option maxHeartbeats 1000000 in
set_option maxRecDepth 100000 in
theorem zzFits5_any {m : Mem} {ks : List ByteArray} {a : Option Addr} {c : Nat} {w : World} (hl : lenOk ks.length c) (hr : RowS m a ks) (hm : MLe m w.cell?) (ht : ∀ k ∈ ks, k.size ≤ 140737488351232) : Calls Tryz.prog 34 #[.slice a ks.length c] w (SomeB w) := by
  obtain ⟨l1, l2⟩ := hl
  have HR := Lib.hid hr
  have HT := Lib.hid ht
  have HM := Lib.hid hm
  clear hr ht hm
  by_cases h : ks.length ≤ 2147483647
  · have h1 : decide (2147483647 < (ks.length : Int)) = false := by simp; omega
    have h2 : decide (2147483647 < ks.length) = false := by simp; omega
    go_enter Tryz.func34, Tryz.ntmps34
    go_wp2
    go_loopw [10] (fun i wr => ∃ k : Nat, k ≤ ks.length ∧ i = .int .i64 k ∧ Hid (Gr w wr)) (fun i _ => ks.length - (intOf i).toNat)
    case atStart => exact ⟨0, Nat.zero_le _, rfl, Gr.refl _⟩
    case round =>
      obtain ⟨k, hk, rfl, hI⟩ := hrel
      by_cases hlt : k < ks.length
      · obtain ⟨b, off, rfl, e0⟩ := HR.out.at hlt
        have e1 := (HM.out.trans hI.out.mle) _ _ e0
        have hsz := HT.out _ (List.getElem_mem hlt)
        clear e0
        by_cases h9 : ks[k].size ≤ 2147483647
        · have d1 : decide (2147483647 < (ks[k].size : Int)) = false := by simp; omega
          have d2 : decide (2147483647 < ks[k].size) = false := by simp; omega
          go_wp2
          go_roundw
          case rel => exact ⟨k + 1, by omega, by go_num, hI.out⟩
          case measure => simp [intOf]; omega
        · have d1 : decide (2147483647 < (ks[k].size : Int)) = true := by simp; omega
          have d2 : decide (2147483647 < ks[k].size) = true := by simp; omega
          go_wp2
          go_ret
          exact ⟨_, rfl, hI.out⟩
      · go_wp2
        go_ret
        exact ⟨_, rfl, hI.out⟩
  · have h1 : decide (2147483647 < (ks.length : Int)) = true := by simp; omega
    have h2 : decide (2147483647 < ks.length) = true := by simp; omega
    go_enter Tryz.func34, Tryz.ntmps34
    go_wp2
    go_ret
    exact ⟨_, rfl, Gr.refl _⟩

set_option maxHeartbeats 1000000 in
set_option maxRecDepth 100000 in
theorem zzFits4_any {m : Mem} {kd : Int} {tx : ByteArray} {ks : List ByteArray} {ak a1 : Option Addr} {ck n1 c1 : Nat} {w : World} (hl : lenOk ks.length ck) (hr : RowS m ak ks) (hm : MLe m w.cell?) (ht : ∀ k ∈ ks, k.size ≤ 140737488351232) (hx : tx.size ≤ 140737488351232) (h1 : n1 ≤ c1) (h2 : c1 ≤ 9223372036854775807) :
    Calls Tryz.prog 11 #[.agg #[.int .i64 kd, .string tx, .slice ak ks.length ck, .slice a1 n1 c1]] w (SomeB w) := by
  have HC := Lib.hid (fun (W : World) (h : MLe m W.cell?) => zzFits5_any (w := W) hl hr h ht)
  have HM := Lib.hid hm
  clear hl hr hm ht
  by_cases h : tx.size ≤ 2147483647
  · have d1 : decide (2147483647 < (tx.size : Int)) = false := by simp; omega
    have d2 : decide (2147483647 < tx.size) = false := by simp; omega
    by_cases h9 : n1 ≤ 2147483647
    · have d3 : decide (2147483647 < (n1 : Int)) = false := by simp; omega
      have d4 : decide (2147483647 < n1) = false := by simp; omega
      go_enter Tryz.func11, Tryz.ntmps11
      go_wp2_with (go_at_call 34; refine (HC.out _ (mle_alloc HM.out _)).mono ?_; rintro e w2 ⟨b, rfl, hg⟩; have hX := bl_heap hg.below (al_new rfl); obtain ⟨x0, x1, x2, x3⟩ := cells4 hX; have HG := Lib.hid hg; cases b <;> clear hg hX)
      all_goals
        go_ret
        exact ⟨_, rfl, ((Gr.refl _).alloc _).trans HG.out⟩
    · have d3 : decide (2147483647 < (n1 : Int)) = true := by simp; omega
      have d4 : decide (2147483647 < n1) = true := by simp; omega
      go_enter Tryz.func11, Tryz.ntmps11
      go_wp2_with (go_at_call 34; refine (HC.out _ (mle_alloc HM.out _)).mono ?_; rintro e w2 ⟨b, rfl, hg⟩; have hX := bl_heap hg.below (al_new rfl); obtain ⟨x0, x1, x2, x3⟩ := cells4 hX; have HG := Lib.hid hg; cases b <;> clear hg hX)
      all_goals
        go_ret
        exact ⟨_, rfl, ((Gr.refl _).alloc _).trans HG.out⟩
  · have d1 : decide (2147483647 < (tx.size : Int)) = true := by simp; omega
    have d2 : decide (2147483647 < tx.size) = true := by simp; omega
    go_enter Tryz.func11, Tryz.ntmps11
    go_wp2
    go_ret
    exact ⟨_, rfl, ((Gr.refl _).alloc _)⟩
end Go.Proofs.YtaglgokeejjagaaGreat
namespace Go.Proofs.YtaglgokeejjagaaGreat
set_option linter.unusedVariables false
set_option linter.unusedSimpArgs false
open Go.RowKit Go.Sort

set_option maxHeartbeats 1000000 in
set_option maxRecDepth 100000 in
theorem zzFits3_any {k : Ky} {w : World} (ht : k.text.size ≤ 140737488351232) : Calls Tryz.prog 54 #[.agg #[.int .i64 k.kind, .string k.text]] w (SomeB w) := by
  go_enter Tryz.func54, Tryz.ntmps54
  go_wp2
  all_goals
    go_ret
    exact ⟨_, rfl, (Gr.refl _).alloc _⟩

set_option maxHeartbeats 1000000 in
set_option maxRecDepth 100000 in
theorem zzFits2_any {m : Mem} {ks : List Ky} {a : Option Addr} {c : Nat} {w : World} (hl : lenOk ks.length c) (hr : RowK m a ks) (hm : MLe m w.cell?) (ht : ∀ k ∈ ks, k.text.size ≤ 140737488351232) : Calls Tryz.prog 33 #[.slice a ks.length c] w (SomeB w) := by
  obtain ⟨l1, l2⟩ := hl
  have HR := Lib.hid hr
  have HT := Lib.hid ht
  have HM := Lib.hid hm
  clear hr ht hm
  go_enter Tryz.func33, Tryz.ntmps33
  go_wp2
  · go_ret
    exact ⟨_, rfl, Gr.refl _⟩
  · go_loopw [10] (fun i wr => ∃ k : Nat, k ≤ ks.length ∧ i = .int .i64 k ∧ Hid (Gr w wr)) (fun i _ => ks.length - (intOf i).toNat)
    case atStart => exact ⟨0, Nat.zero_le _, rfl, Gr.refl _⟩
    case round =>
      obtain ⟨k, hk, rfl, hI⟩ := hrel
      by_cases hlt : k < ks.length
      · obtain ⟨b, off, rfl, e0, e1⟩ := HR.out.at hlt
        replace e0 := (HM.out.trans hI.out.mle) _ _ e0
        replace e1 := (HM.out.trans hI.out.mle) _ _ e1
        have HC := Lib.hid (fun W => zzFits3_any (k := ks[k]) (w := W) (HT.out _ (List.getElem_mem hlt)))
        go_wp2_with (go_at_call 54; refine (HC.out _).mono ?_; rintro e w2 ⟨b, rfl, hg⟩; have HG := Lib.hid hg; cases b <;> clear hg)
        · go_ret
          exact ⟨_, rfl, (hI.out.alloc _).trans HG.out⟩
        · go_roundw
          case rel => exact ⟨k + 1, by omega, by go_num, (hI.out.alloc _).trans HG.out⟩
          case measure => simp [intOf]; omega
      · go_wp2
        go_ret
        exact ⟨_, rfl, hI.out⟩

set_option maxHeartbeats 1000000 in
set_option maxRecDepth 100000 in
theorem zzFits1_any {m : Mem} {t : IT} {kd : Int} {nm tx : ByteArray} {ak a1 a2 : Option Addr} {nk ck n1 c1 n2 c2 : Nat} {w : World} (hb : BdI t) (hv : MIT m (itCells kd nm tx ak nk ck a1 n1 c1 a2 n2 c2) t) (hm : MLe m w.cell?) :
    Calls Tryz.prog 10 #[.agg #[.int .i64 kd, .string nm, .string tx, .slice ak nk ck, .slice a1 n1 c1, .slice a2 n2 c2]] w (SomeB w) := by
  obtain ⟨rfl, rfl, rfl, rfl, rfl, rfl, lk, ⟨l11, l12⟩, ⟨l21, l22⟩, rk, r1, r2⟩ := hv.open
  obtain ⟨b0, b1, b2, b3, b4, b5, b6, b7⟩ := hb.out
  have HC := Lib.hid (fun (W : World) (h : MLe m W.cell?) => zzFits2_any (w := W) lk rk h b3)
  have HM := Lib.hid hm
  clear lk rk r1 r2 hb hv hm b2 b3 b4 b5 b6 b7
  go_enter Tryz.func10, Tryz.ntmps10
  go_wp2_with (go_at_call 33; refine (HC.out _ (mle_alloc HM.out _)).mono ?_; rintro e w2 ⟨b, rfl, hg⟩; have hX := bl_heap hg.below (al_new rfl); obtain ⟨x0, x1, x2, x3, x4, x5⟩ := cells6 hX; have HG := Lib.hid (((Gr.refl _).alloc _).trans hg); cases b <;> clear hg hX)
  all_goals
    go_ret
    first
    | exact ⟨_, rfl, HG.out⟩
    | exact ⟨_, rfl, (Gr.refl _).alloc _⟩
end Go.Proofs.YtaglgokeejjagaaGreat
