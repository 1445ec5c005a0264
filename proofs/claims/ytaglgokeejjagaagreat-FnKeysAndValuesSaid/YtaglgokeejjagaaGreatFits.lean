/- The guards, 'works', 'TypeOf' of the thin package. -/
import Derived.Test.YtaglgokeejjagaaGreatOwn
import Derived.Test.YtaglgokeejjagaaGreatPure1
namespace Go.Proofs.YtaglgokeejjagaaGreat
set_option linter.unusedVariables false
set_option linter.unusedSimpArgs false
open Go.RowKit Go.Sort

def SomeB (w : World) (e : Ending) (w' : World) : Prop := ∃ b, e = .returned (.bool b) ∧ Gr w w'

set_option maxHeartbeats 1000000 in
set_option maxRecDepth 100000 in
theorem zzFits5_any {m : Mem} {ks : List ByteArray} {a : Option Addr} {c : Nat} {w : World} (hl : lenOk ks.length c) (hr : RowS m a ks) (hm : MLe m w.cell?) (ht : ∀ k ∈ ks, k.size ≤ 140737488351232) : Calls Tryz.prog 34 #[.slice a ks.length c] w (SomeB w) := by
  obtain ⟨l1, l2⟩ := hl
  have HR := Lib.hid hr
  have HT := Lib.hid ht
  have HM := Lib.hid hm
  clear hr ht hm
  by_cases h : ks.length ≤ 2147483647
  · have h1 : decide (2147483647 < (ks.length : Int)) = false := by simp; omega
    have h2 : decide (2147483647 < ks.length) = false := by simp; omega
    go_enter Tryz.func34, Tryz.ntmps34
    go_wp2
    go_loopw [10] (fun i wr => ∃ k : Nat, k ≤ ks.length ∧ i = .int .i64 k ∧ Hid (Gr w wr)) (fun i _ => ks.length - (intOf i).toNat)
    case atStart => exact ⟨0, Nat.zero_le _, rfl, Gr.refl _⟩
    case round =>
      obtain ⟨k, hk, rfl, hI⟩ := hrel
      by_cases hlt : k < ks.length
      · obtain ⟨b, off, rfl, e0⟩ := HR.out.at hlt
        have e1 := (HM.out.trans hI.out.mle) _ _ e0
        have hsz := HT.out _ (List.getElem_mem hlt)
        clear e0
        by_cases h9 : ks[k].size ≤ 2147483647
        · have d1 : decide (2147483647 < (ks[k].size : Int)) = false := by simp; omega
          have d2 : decide (2147483647 < ks[k].size) = false := by simp; omega
          go_wp2
          go_roundw
          case rel => exact ⟨k + 1, by omega, by go_num, hI.out⟩
          case measure => simp [intOf]; omega
        · have d1 : decide (2147483647 < (ks[k].size : Int)) = true := by simp; omega
          have d2 : decide (2147483647 < ks[k].size) = true := by simp; omega
          go_wp2
          go_ret
          exact ⟨_, rfl, hI.out⟩
      · go_wp2
        go_ret
        exact ⟨_, rfl, hI.out⟩
  · have h1 : decide (2147483647 < (ks.length : Int)) = true := by simp; omega
    have h2 : decide (2147483647 < ks.length) = true := by simp; omega
    go_enter Tryz.func34, Tryz.ntmps34
    go_wp2
    go_ret
    exact ⟨_, rfl, Gr.refl _⟩

set_option maxHeartbeats 1000000 in
set_option maxRecDepth 100000 in
theorem zzFits4_any {m : Mem} {kd : Int} {tx : ByteArray} {ks : List ByteArray} {ak a1 : Option Addr} {ck n1 c1 : Nat} {w : World} (hl : lenOk ks.length ck) (hr : RowS m ak ks) (hm : MLe m w.cell?) (ht : ∀ k ∈ ks, k.size ≤ 140737488351232) (hx : tx.size ≤ 140737488351232) (h1 : n1 ≤ c1) (h2 : c1 ≤ 9223372036854775807) :
    Calls Tryz.prog 11 #[.agg #[.int .i64 kd, .string tx, .slice ak ks.length ck, .slice a1 n1 c1]] w (SomeB w) := by
  have HC := Lib.hid (fun (W : World) (h : MLe m W.cell?) => zzFits5_any (w := W) hl hr h ht)
  have HM := Lib.hid hm
  clear hl hr hm ht
  by_cases h : tx.size ≤ 2147483647
  · have d1 : decide (2147483647 < (tx.size : Int)) = false := by simp; omega
    have d2 : decide (2147483647 < tx.size) = false := by simp; omega
    by_cases h9 : n1 ≤ 2147483647
    · have d3 : decide (2147483647 < (n1 : Int)) = false := by simp; omega
      have d4 : decide (2147483647 < n1) = false := by simp; omega
      go_enter Tryz.func11, Tryz.ntmps11
      go_wp2_with (go_at_call 34; refine (HC.out _ (mle_alloc HM.out _)).mono ?_; rintro e w2 ⟨b, rfl, hg⟩; have hX := bl_heap hg.below (al_new rfl); obtain ⟨x0, x1, x2, x3⟩ := cells4 hX; have HG := Lib.hid hg; cases b <;> clear hg hX)
      all_goals
        go_ret
        exact ⟨_, rfl, ((Gr.refl _).alloc _).trans HG.out⟩
    · have d3 : decide (2147483647 < (n1 : Int)) = true := by simp; omega
      have d4 : decide (2147483647 < n1) = true := by simp; omega
      go_enter Tryz.func11, Tryz.ntmps11
      go_wp2_with (go_at_call 34; refine (HC.out _ (mle_alloc HM.out _)).mono ?_; rintro e w2 ⟨b, rfl, hg⟩; have hX := bl_heap hg.below (al_new rfl); obtain ⟨x0, x1, x2, x3⟩ := cells4 hX; have HG := Lib.hid hg; cases b <;> clear hg hX)
      all_goals
        go_ret
        exact ⟨_, rfl, ((Gr.refl _).alloc _).trans HG.out⟩
  · have d1 : decide (2147483647 < (tx.size : Int)) = true := by simp; omega
    have d2 : decide (2147483647 < tx.size) = true := by simp; omega
    go_enter Tryz.func11, Tryz.ntmps11
    go_wp2
    go_ret
    exact ⟨_, rfl, ((Gr.refl _).alloc _)⟩
end Go.Proofs.YtaglgokeejjagaaGreat
