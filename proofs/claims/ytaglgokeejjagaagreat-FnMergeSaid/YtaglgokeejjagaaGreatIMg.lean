/- 'Merge' of the thin package. -/
import Derived.Test.YtaglgokeejjagaaGreatMoY
namespace Go.Proofs.YtaglgokeejjagaaGreat
set_option linter.unusedVariables false
set_option linter.unusedSimpArgs false
open Go.RowKit Go.Sort

/-- What 'Merge' of the thin package gives. -/
def ImQ (sa sb : ST) (w : World) (e : Ending) (w' : World) : Prop :=
  ∃ (ok : Bool) (o : Option ST) (ak : Option Addr) (nk ck : Nat) (a1 : Option Addr) (n1 c1 : Nat) (a2 : Option Addr) (n2 c2 : Nat), e = .returned (.tuple #[.agg #[.int .i64 (oI o).kind, .string ⟨#[]⟩, .string ⟨#[]⟩, .slice ak nk ck, .slice a1 n1 c1, .slice a2 n2 c2], .bool ok]) ∧
    (ok = true ↔ sa.kind = 6) ∧ (ok = true → ∃ r, o = some r ∧ (sb.kind = 6 → MoSt sa sb r) ∧ WS r ≤ 400000) ∧ MIT (fr m0 w.heap.size w' none) (itCells (oI o).kind ⟨#[]⟩ ⟨#[]⟩ ak nk ck a1 n1 c1 a2 n2 c2) (oI o) ∧ Below w.heap.size w w'
theorem mit_flat0 (m : Mem) : MIT m (itCells (oI none).kind ⟨#[]⟩ ⟨#[]⟩ none 0 0 none 0 0 none 0 0) (oI none) := by
  have h := mit_flat m 0
  rw [toI_eq] at h
  exact h
theorem assert80y {X : TypeId} {u : Value} (w : World) : (Instr.typeAssert (.iface 80 u) X 80 true).run Tryz.prog w = .ok (.tuple #[u, .bool true]) w := by
  unfold Instr.typeAssert
  simp [go_sem, Tryz.underlying80, Tryz.zeroValue80]
theorem rt_80 {m : Mem} {T : Nat} {u : Value} {s : ST} (h : RT m (.iface T u) s) : T = 80 ↔ s.kind = 6 := by
  constructor
  · intro e; subst e; cases h; simp [ST.kind]
  · intro e; cases h <;> first | rfl | exact absurd e (by simp [ST.kind])
set_option maxHeartbeats 8000000 in
set_option maxRecDepth 100000 in
theorem imerge_any {ta tb : IT} {m : Mem} {kda kdb : Int} {nma txa nmb txb : ByteArray} {aka a1a a2a akb a1b a2b : Option Addr} {nka cka n1a c1a n2a c2a nkb ckb n1b c1b n2b c2b : Nat} {w : World}
    (hva : MIT m (itCells kda nma txa aka nka cka a1a n1a c1a a2a n2a c2a) ta) (hvb : MIT m (itCells kdb nmb txb akb nkb ckb a1b n1b c1b a2b n2b c2b) tb) (hba : BT (toS ta)) (hbb : BT (toS tb)) (hnb : Na (toS tb)) (hwa : WI ta ≤ 20000) (hwb : WI tb ≤ 20000) (hm : MLe m w.cell?) :
    Calls Tryz.prog 25 #[.agg #[.int .i64 kda, .string nma, .string txa, .slice aka nka cka, .slice a1a n1a c1a, .slice a2a n2a c2a], .agg #[.int .i64 kdb, .string nmb, .string txb, .slice akb nkb ckb, .slice a1b n1b c1b, .slice a2b n2b c2b]] w (ImQ (nrm (toS ta)) (nrm (toS tb)) w) := by
  have HA := Lib.hid (fun W hW => built_any ta m _ _ _ _ _ _ _ _ _ _ _ _ W hva hba (by omega) hW)
  have HB := Lib.hid (fun W hW => built_any tb m _ _ _ _ _ _ _ _ _ _ _ _ W hvb hbb (by omega) hW)
  have HM := Lib.hid hm
  have HNA := Lib.hid (nrm_na hbb hnb)
  have HW := Lib.hid (show WS (nrm (toS ta)) + WS (nrm (toS tb)) ≤ 50000 from by rw [nrm_WS hba, nrm_WS hbb, WS_toS, WS_toS]; omega)
  clear hva hvb hba hbb hnb hwa hwb hm
  generalize nrm (toS ta) = sa at HA HW
  generalize nrm (toS tb) = sb at HB HW HNA
  go_enter Tryz.func25, Tryz.ntmps25
  go_wp2_with (first
    | (go_at_call 46; refine (HA.out _ (mle_alloc (mle_alloc (mle_alloc HM.out _) _) _)).mono ?_; rintro e w2 ⟨v, rfl, hrt, hbl⟩
       have HBL := Lib.hid (bl_trans (bl_alloc (bl_alloc (bl_alloc (Below.refl w.heap.size w) _) _) _) hbl)
       have HXB2 := Lib.hid (show w2.heap[w.heap.size + 1]? = some (.cells #[.int .i64 kdb, .string nmb, .string txb, .slice akb nkb ckb, .slice a1b n1b c1b, .slice a2b n2b c2b] 25 (0, 0)) from bl_heap hbl (al_old (al_new (by simp))))
       have HXR2 := Lib.hid (show w2.heap[w.heap.size + 1 + 1]? = some (.cells #[.int .i64 0, .string ⟨#[]⟩, .string ⟨#[]⟩, .slice none 0 0, .slice none 0 0, .slice none 0 0] 25 (0, 0)) from bl_heap hbl (al_new (by simp)))
       obtain ⟨T, u, rfl⟩ := hrt.shape'
       have HRT := Lib.hid (hrt.mono (fr_lower (B := w.heap.size) (w' := w2) (lo_m0 _) (by simp; omega) (fun _ _ _ => rfl)))
       obtain ⟨b0, b1, b2, b3, b4, b5⟩ := cells6 HXB2.out; have frb := froz_blk HXB2.out; have hsb := lt_blk HXB2.out
       clear hrt hbl))
  by_cases h80 : T = 80
  · subst h80
    rw [assert80y]
    go_wp2_with (first
      | (go_at_call 46; refine (HB.out _ (HM.out.trans (mle_below HBL.out))).mono ?_; rintro e w3 ⟨v, rfl, hrt, hbl⟩
         have HRB := Lib.hid (hrt.mono (fr_lower (B := w.heap.size) (w' := w3) (lo_m0 _) HBL.out.size (fun _ _ _ => rfl)))
         have HRA := Lib.hid (HRT.out.mono (fr_bl hbl))
         have HB3 := Lib.hid (bl_trans HBL.out hbl)
         have HXR3 := Lib.hid (bl_heap hbl HXR2.out)
         clear hrt hbl)
      | (go_at_call 49; refine (merge_any49 HRA.out HRB.out HNA.out (fr_leU (m0_le _)) HW.out).mono ?_; rintro e w4 ⟨p, r, hr, hwr, rfl, hrr, hbl⟩
         have HR := Lib.hid (show ∃ r', some r = some r' ∧ (sb.kind = 6 → MoSt sa sb r') ∧ WS r' ≤ 400000 from ⟨r, rfl, hr, hwr⟩)
         have HWR := Lib.hid hwr
         obtain ⟨M, hro2, hml⟩ : ∃ M, RO M (.iface 80 (.pointer p)) (some r) ∧ MLe M w4.cell? := ⟨_, hrr, fr_le ((fr_le (m0_le _)).trans (mle_below hbl))⟩
         have HRO := Lib.hid hro2; have HRL := Lib.hid hml
         have HB4 := Lib.hid (bl_trans HB3.out hbl)
         have HXR4 := Lib.hid (bl_heap hbl HXR3.out)
         clear hr hwr hrr hbl hro2 hml)
      | (go_at_call 44; refine (plainO (P := fun o => ∃ r', o = some r' ∧ (sb.kind = 6 → MoSt sa sb r') ∧ WS r' ≤ 400000) HR.out (show WS r ≤ 1000000000 from by have := HWR.out; omega) HRO.out HRL.out).mono ?_; rintro e w5 ⟨o5, ho5, ak5, nk5, ck5, a15, n15, c15, a25, n25, c25, rfl, hmv5, hb5⟩; have HO5 := Lib.hid ho5; have HMV5 := Lib.hid hmv5; have HBL5 := Lib.hid (bl_trans HB4.out hb5); have HXR5 := Lib.hid (bl_heap hb5 HXR4.out); obtain ⟨r0, r1, r2, r3, r4, r5⟩ := cells6 HXR5.out; have fr' := froz_blk HXR5.out; have hs3 := lt_blk HXR5.out; clear ho5 hmv5 hb5))
    have HSZ := Lib.hid (lt_blk HXR4.out)
    refine bodyPost_ret (v := .tuple #[.agg #[.int .i64 (oI o5).kind, .string ⟨#[]⟩, .string ⟨#[]⟩, .slice ak5 nk5 ck5, .slice a15 n15 c15, .slice a25 n25 c25], .bool true]) (by simp [results, Tryz.results25, go_sem, r0, r1, r2, r3, r4, r5, hs3, fr']) rfl ⟨true, o5, _, _, _, _, _, _, _, _, _, rfl, ⟨fun _ => (rt_80 HRT.out).1 rfl, fun _ => rfl⟩, fun _ => HO5.out, ?_, ?_⟩
    · have s4 := HSZ.out
      refine HMV5.out.mono (fr_deep (lo_m0 _) (by omega) (fun k e => by cases e) (fun k h1 h2 _ => ?_) (.inl rfl))
      repeat rw [Below.heap_setCell _ _ _ k (show k ≠ w.heap.size + 1 + 1 from by omega)]
    · have hle : w.heap.size ≤ w.heap.size + 1 + 1 := by omega
      exact (((((HBL5.out.setCell hle _).setCell hle _).setCell hle _).setCell hle _).setCell hle _).setCell hle _
  · have H6 := Lib.hid (show ¬ sa.kind = 6 from fun h => h80 ((rt_80 HRT.out).2 h))
    obtain ⟨r0, r1, r2, r3, r4, r5⟩ := cells6 HXR2.out; have fr' := froz_blk HXR2.out; have hs3 := lt_blk HXR2.out
    rw [assert80 h80]
    go_wp2
    refine bodyPost_ret (v := .tuple #[.agg #[.int .i64 0, .string ⟨#[]⟩, .string ⟨#[]⟩, .slice none 0 0, .slice none 0 0, .slice none 0 0], .bool false]) (by simp [results, Tryz.results25, go_sem, r0, r1, r2, r3, r4, r5, hs3, fr']) rfl ⟨false, none, _, _, _, _, _, _, _, _, _, rfl, ⟨fun h => (by cases h), fun h => absurd h H6.out⟩, fun h => (by cases h), mit_flat0 _, ?_⟩
    have hle : w.heap.size ≤ w.heap.size + 1 + 1 := by omega
    exact (((((HBL.out.setCell hle _).setCell hle _).setCell hle _).setCell hle _).setCell hle _).setCell hle _
end Go.Proofs.YtaglgokeejjagaaGreat
