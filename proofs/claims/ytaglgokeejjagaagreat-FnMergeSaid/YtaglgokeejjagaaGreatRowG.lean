/- Proved: fnMerge_holds, that the law FnMerge answers true at every input that the given statement speaks of (Rows.FnMergeSaid). Conditions: none beside those of the given statement itself. -/
import Derived.Test.YtaglgokeejjagaaGreatRows
import Derived.Test.YtaglgokeejjagaaGreatLawG
import Derived.Test.YtaglgokeejjagaaGreatDataI
import Derived.WalkKit
import Derived.ProofKit
import Derived.OpenShut
import Derived.ShutString
import Derived.ChangeOld
import Derived.Below
import Derived.SizedLaws
namespace Go.Proofs.YtaglgokeejjagaaGreat
open Go.ChangeShapes Go.WideShapes Go.ChangeAt Go.RowKit
set_option linter.unusedVariables false
theorem ownKnob_none : ownKnob Tryz.prog.godebug = none := by kernel_rfl
theorem laidOut_tryz : laidOutB Tryz.prog = true := by kernel_rfl

set_option maxRecDepth 100000 in
theorem fnMerge_lifted (os : Os) (started : os.Started) (H : Type) (enc : TypeId × Value → H) :
    ReturnsInHanded {} Tryz.checked os 5 .any (Rows.fnMergeSpec.pre6 enc Tryz.prog Tryz.f5 Rows.fnMergeRow.domain false) (Rows.fnMergeSpec.post enc Tryz.prog Tryz.f5 false true false false) := by
  refine returnsInHanded_of_change_sized (C := Tryz.checked) ownKnob_none started (by kernel_rfl) Tryz.func5
    (ChangeSpec.witness6 (enc := enc) (C := Tryz.checked) false ⟨#[], #[.agg #[.int .i64 0, .string ByteArray.empty, .string ByteArray.empty, .slice none 0 0, .slice none 0 0, .slice none 0 0], .agg #[.int .i64 0, .string ByteArray.empty, .string ByteArray.empty, .slice none 0 0, .slice none 0 0, .slice none 0 0], .agg #[.int .i64 0, .string ByteArray.empty, .slice none 0 0, .slice none 0 0], .agg #[.int .i64 0, .string ByteArray.empty, .slice none 0 0, .slice none 0 0]], []⟩ 5 (by kernel_rfl) (by kernel_rfl) (by kernel_rfl) (by kernel_rfl)) ?_
  intro W base args ds gs before hval0 hW hcnd hsz0 _
  have hsz : (DataW.weightsEach Tryz.prog (Tryz.f5.params.toList ++ Rows.fnMergeSpec.plain.varTypes Tryz.prog) (ds ++ gs)).all (· ≤ reachBytes) = true := hsz0
  have hval : ∀ (j : Nat) t v, Tryz.f5.params[j]? = some t → args[j]? = some v → Value.okWide Tryz.prog W .any base t v := hval0
  have hW' := hW
  obtain ⟨p, q, hA0, hV, rfl, hfz, hnd⟩ := hW
  have hA : DataW.TrodAll enc Tryz.prog W 0 (fun _ => true) true Tryz.f5.params.toList args.toList ds p := hA0
  rw [Tryz.params5] at hA hval hsz
  obtain ⟨v0, vs0, d0, ds0, p0, q0, hargs, rfl, rfl, h0, r0⟩ := trodAll_cons hA
  obtain ⟨v1, vs1, d1, ds1, p1, q1, rfl, rfl, rfl, h1, r1⟩ := trodAll_cons r0
  obtain ⟨v2, vs2, d2, ds2, p2, q2, rfl, rfl, rfl, h2, r2⟩ := trodAll_cons r1
  obtain ⟨v3, vs3, d3, ds3, p3, q3, rfl, rfl, rfl, h3, r3⟩ := trodAll_cons r2
  obtain ⟨rfl, rfl, rfl⟩ := trodAll_nil r3
  obtain rfl : args = #[v0, v1, v2, v3] := by cases args; simp_all
  obtain ⟨rfl, rfl⟩ := trodVars_none hV
  have k0 := h0
  have lt0 : ∀ x ∈ p0, x.block < W.heap.size := by obtain ⟨m, hm⟩ := k0; exact DataW.trod_lt m _ _ _ hm
  have hok0 := hval 0 25 v0 rfl rfl
  obtain ⟨cs0, rfl⟩ : ∃ cs, v0 = .agg cs := by
    unfold Value.okWide at hok0
    rw [Tryz.underlying25] at hok0
    obtain ⟨cs, e, _⟩ := hok0
    exact ⟨cs, e⟩
  obtain ⟨fuel0, hf0⟩ := h0
  obtain ⟨t0, ⟨kd0, nm0, tx0, ak0, nk0, ck0, a10, n10, c10, a20, n20, c20, hcs0⟩, hmv0, hbd0⟩ := typ_data fuel0 _ _ hf0
  have hcs0' : cs0 = #[.int .i64 kd0, .string nm0, .string tx0, .slice ak0 nk0 ck0, .slice a10 n10 c10, .slice a20 n20 c20] := by
    have h : cs0.toList = [.int .i64 kd0, .string nm0, .string tx0, .slice ak0 nk0 ck0, .slice a10 n10 c10, .slice a20 n20 c20] := hcs0
    cases cs0; simpa using h
  subst hcs0'
  have hb0 : BdI t0 := hbd0 (by
    have h := hsz
    simp only [List.cons_append, List.nil_append, DataW.weightsEach] at h
    exact (all_left h).1)
  have k1 := h1
  have lt1 : ∀ x ∈ p1, x.block < W.heap.size := by obtain ⟨m, hm⟩ := k1; exact DataW.trod_lt m _ _ _ hm
  have hok1 := hval 1 25 v1 rfl rfl
  obtain ⟨cs1, rfl⟩ : ∃ cs, v1 = .agg cs := by
    unfold Value.okWide at hok1
    rw [Tryz.underlying25] at hok1
    obtain ⟨cs, e, _⟩ := hok1
    exact ⟨cs, e⟩
  obtain ⟨fuel1, hf1⟩ := h1
  obtain ⟨t1, ⟨kd1, nm1, tx1, ak1, nk1, ck1, a11, n11, c11, a21, n21, c21, hcs1⟩, hmv1, hbd1⟩ := typ_data fuel1 _ _ hf1
  have hcs1' : cs1 = #[.int .i64 kd1, .string nm1, .string tx1, .slice ak1 nk1 ck1, .slice a11 n11 c11, .slice a21 n21 c21] := by
    have h : cs1.toList = [.int .i64 kd1, .string nm1, .string tx1, .slice ak1 nk1 ck1, .slice a11 n11 c11, .slice a21 n21 c21] := hcs1
    cases cs1; simpa using h
  subst hcs1'
  have hb1 : BdI t1 := hbd1 (by
    have h := hsz
    simp only [List.cons_append, List.nil_append, DataW.weightsEach] at h
    exact (all_left (all_left h).2).1)
  have k2 := h2
  have lt2 : ∀ x ∈ p2, x.block < W.heap.size := by obtain ⟨m, hm⟩ := k2; exact DataW.trod_lt m _ _ _ hm
  have hok2 := hval 2 29 v2 rfl rfl
  obtain ⟨cs2, rfl⟩ : ∃ cs, v2 = .agg cs := by
    unfold Value.okWide at hok2
    rw [Tryz.underlying29] at hok2
    obtain ⟨cs, e, _⟩ := hok2
    exact ⟨cs, e⟩
  obtain ⟨fuel2, hf2⟩ := h2
  obtain ⟨t2, ⟨kd2, tx2, ak2, nk2, ck2, a12, n12, c12, hcs2⟩, hmv2, hbd2⟩ := val_data fuel2 _ _ hf2
  have hcs2' : cs2 = #[.int .i64 kd2, .string tx2, .slice ak2 nk2 ck2, .slice a12 n12 c12] := by
    have h : cs2.toList = [.int .i64 kd2, .string tx2, .slice ak2 nk2 ck2, .slice a12 n12 c12] := hcs2
    cases cs2; simpa using h
  subst hcs2'
  have hb2 : BdV t2 := hbd2 (by
    have h := hsz
    simp only [List.cons_append, List.nil_append, DataW.weightsEach] at h
    exact (all_left (all_left (all_left h).2).2).1)
  have k3 := h3
  have lt3 : ∀ x ∈ p3, x.block < W.heap.size := by obtain ⟨m, hm⟩ := k3; exact DataW.trod_lt m _ _ _ hm
  have hok3 := hval 3 29 v3 rfl rfl
  obtain ⟨cs3, rfl⟩ : ∃ cs, v3 = .agg cs := by
    unfold Value.okWide at hok3
    rw [Tryz.underlying29] at hok3
    obtain ⟨cs, e, _⟩ := hok3
    exact ⟨cs, e⟩
  obtain ⟨fuel3, hf3⟩ := h3
  obtain ⟨t3, ⟨kd3, tx3, ak3, nk3, ck3, a13, n13, c13, hcs3⟩, hmv3, hbd3⟩ := val_data fuel3 _ _ hf3
  have hcs3' : cs3 = #[.int .i64 kd3, .string tx3, .slice ak3 nk3 ck3, .slice a13 n13 c13] := by
    have h : cs3.toList = [.int .i64 kd3, .string tx3, .slice ak3 nk3 ck3, .slice a13 n13 c13] := hcs3
    cases cs3; simpa using h
  subst hcs3'
  have hb3 : BdV t3 := hbd3 (by
    have h := hsz
    simp only [List.cons_append, List.nil_append, DataW.weightsEach] at h
    exact (all_left (all_left (all_left (all_left h).2).2).2).1)
  clear hA0 hval0 hsz0 hsz
  have hlaw : Calls Tryz.prog 5 #[.agg #[.int .i64 kd0, .string nm0, .string tx0, .slice ak0 nk0 ck0, .slice a10 n10 c10, .slice a20 n20 c20], .agg #[.int .i64 kd1, .string nm1, .string tx1, .slice ak1 nk1 ck1, .slice a11 n11 c11, .slice a21 n21 c21], .agg #[.int .i64 kd2, .string tx2, .slice ak2 nk2 ck2, .slice a12 n12 c12], .agg #[.int .i64 kd3, .string tx3, .slice ak3 nk3 ck3, .slice a13 n13 c13]] W (LawQ W) := law_merge hb0 hb1 hb2 hb3 hmv0 hmv1 hmv2 hmv3 (MLe.refl _)
  refine hlaw.mono fun e W' ⟨he, bel⟩ => ?_
  subst he
  exact ⟨_, rfl, _, _, _, [], _, [], hW', trodAll_mk1 (shut_bool Tryz.underlying4 _), (trodAll_cons_mk (Below.trod laidOut_tryz (by kernel_rfl) (of_decide_eq_true (by kernel_rfl)) k0 bel lt0) (trodAll_cons_mk (Below.trod laidOut_tryz (by kernel_rfl) (of_decide_eq_true (by kernel_rfl)) k1 bel lt1) (trodAll_cons_mk (Below.trod laidOut_tryz (by kernel_rfl) (of_decide_eq_true (by kernel_rfl)) k2 bel lt2) (trodAll_cons_mk (Below.trod laidOut_tryz (by kernel_rfl) (of_decide_eq_true (by kernel_rfl)) k3 bel lt3) trodAll_mk0)))), rfl, bel.frame _, fun h => by cases h⟩
theorem fnMerge_over : Rows.fnMergeRow.holds Tryz.pinned (OpenSpec.ofChange Rows.fnMergeSpec) :=
  OpenClaim.holds_of_wide 5 Tryz.f5 rfl rfl rfl rfl rfl rfl rfl ⟨rfl, rfl, rfl, rfl, rfl⟩ rfl rfl rfl rfl rfl (by kernel_rfl) Tryz.func5 (by kernel_rfl)
    (of_decide_eq_true (by kernel_rfl)) (by unfold Func.isWrapper; first | (rw [if_pos (by decide +kernel)]; kernel_rfl) | (rw [if_neg (by decide +kernel)]; exact ⟨rfl, rfl⟩))
    (fun os started H enc _ => fnMerge_lifted os started H enc)
theorem fnMerge_holds : Rows.FnMergeSaid := fnMerge_over
#print axioms fnMerge_holds
end Go.Proofs.YtaglgokeejjagaaGreat
