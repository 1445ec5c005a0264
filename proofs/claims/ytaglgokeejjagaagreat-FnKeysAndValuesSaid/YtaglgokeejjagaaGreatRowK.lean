/- Proved: fnKeysAndValues_holds, that the law FnKeysAndValues answers true at every input that the given statement speaks of (Rows.FnKeysAndValuesSaid). Conditions: none beside those of the given statement itself. -/
import Derived.Test.YtaglgokeejjagaaGreatRows
import Derived.Test.YtaglgokeejjagaaGreatLawV2
import Derived.Test.YtaglgokeejjagaaGreatDataI
import Derived.WalkKit
import Derived.ProofKit
import Derived.OpenShut
import Derived.ShutString
import Derived.ChangeOld
import Derived.Below
import Derived.SizedLaws
namespace Go.Proofs.YtaglgokeejjagaaGreat
open Go.ChangeShapes Go.WideShapes Go.ChangeAt Go.RowKit
set_option linter.unusedVariables false
theorem ownKnob_none : ownKnob Tryz.prog.godebug = none := by kernel_rfl
theorem laidOut_tryz : laidOutB Tryz.prog = true := by kernel_rfl

set_option maxRecDepth 100000 in
theorem fnKeysAndValues_lifted (os : Os) (started : os.Started) (H : Type) (enc : TypeId × Value → H) :
    ReturnsInHanded {} Tryz.checked os 9 .any (Rows.fnKeysAndValuesSpec.pre6 enc Tryz.prog Tryz.f9 Rows.fnKeysAndValuesRow.domain false) (Rows.fnKeysAndValuesSpec.post enc Tryz.prog Tryz.f9 false true false false) := by
  refine returnsInHanded_of_change_sized (C := Tryz.checked) ownKnob_none started (by kernel_rfl) Tryz.func9
    (ChangeSpec.witness6 (enc := enc) (C := Tryz.checked) false ⟨#[], #[.agg #[.int .i64 0, .string ByteArray.empty, .string ByteArray.empty, .slice none 0 0, .slice none 0 0, .slice none 0 0], .agg #[.int .i64 0, .string ByteArray.empty, .slice none 0 0, .slice none 0 0]], []⟩ 9 (by kernel_rfl) (by kernel_rfl) (by kernel_rfl) (by kernel_rfl)) ?_
  intro W base args ds gs before hval0 hW hcnd hsz0 _
  have hsz : (DataW.weightsEach Tryz.prog (Tryz.f9.params.toList ++ Rows.fnKeysAndValuesSpec.plain.varTypes Tryz.prog) (ds ++ gs)).all (· ≤ reachBytes) = true := hsz0
  have hval : ∀ (j : Nat) t v, Tryz.f9.params[j]? = some t → args[j]? = some v → Value.okWide Tryz.prog W .any base t v := hval0
  have hW' := hW
  obtain ⟨p, q, hA0, hV, rfl, hfz, hnd⟩ := hW
  have hA : DataW.TrodAll enc Tryz.prog W 0 (fun _ => true) true Tryz.f9.params.toList args.toList ds p := hA0
  rw [Tryz.params9] at hA hval hsz
  obtain ⟨v0, vs0, d0, ds0, p0, q0, hargs, rfl, rfl, h0, r0⟩ := trodAll_cons hA
  obtain ⟨v1, vs1, d1, ds1, p1, q1, rfl, rfl, rfl, h1, r1⟩ := trodAll_cons r0
  obtain ⟨rfl, rfl, rfl⟩ := trodAll_nil r1
  obtain rfl : args = #[v0, v1] := by cases args; simp_all
  obtain ⟨rfl, rfl⟩ := trodVars_none hV
  have k0 := h0
  have lt0 : ∀ x ∈ p0, x.block < W.heap.size := by obtain ⟨m, hm⟩ := k0; exact DataW.trod_lt m _ _ _ hm
  have k1 := h1
  have lt1 : ∀ x ∈ p1, x.block < W.heap.size := by obtain ⟨m, hm⟩ := k1; exact DataW.trod_lt m _ _ _ hm
  have hok1 := hval 1 29 v1 rfl rfl
  obtain ⟨cs1, rfl⟩ : ∃ cs, v1 = .agg cs := by
    unfold Value.okWide at hok1
    rw [Tryz.underlying29] at hok1
    obtain ⟨cs, e, _⟩ := hok1
    exact ⟨cs, e⟩
  obtain ⟨fuel1, hf1⟩ := h1
  obtain ⟨vv, ⟨kv, vx, akv, nkv, ckv, a1v, n1v, c1v, hcs1⟩, hmv1, hbd1⟩ := val_data fuel1 _ _ hf1
  have hcs1' : cs1 = #[.int .i64 kv, .string vx, .slice akv nkv ckv, .slice a1v n1v c1v] := by
    have h : cs1.toList = [.int .i64 kv, .string vx, .slice akv nkv ckv, .slice a1v n1v c1v] := hcs1
    cases cs1; simpa using h
  subst hcs1'
  have hbv : BdV vv := hbd1 (by
    have h := hsz
    simp only [List.cons_append, List.nil_append, DataW.weightsEach] at h
    exact (all_left (all_left h).2).1)
  have hok := hval 0 25 v0 rfl rfl
  obtain ⟨cs, rfl⟩ : ∃ cs, v0 = .agg cs := by
    unfold Value.okWide at hok
    rw [Tryz.underlying25] at hok
    obtain ⟨cs, e, _⟩ := hok
    exact ⟨cs, e⟩
  obtain ⟨fuel, hf⟩ := h0
  obtain ⟨t, ⟨kd, nm, tx, ak, nk, ck, a1, n1, c1, a2, n2, c2, hcs⟩, hmv, hbd⟩ := typ_data fuel _ _ hf
  have hcs' : cs = #[.int .i64 kd, .string nm, .string tx, .slice ak nk ck, .slice a1 n1 c1, .slice a2 n2 c2] := by
    have h : cs.toList = [.int .i64 kd, .string nm, .string tx, .slice ak nk ck, .slice a1 n1 c1, .slice a2 n2 c2] := hcs
    cases cs; simpa using h
  subst hcs'
  have hb : BdI t := hbd (by
    have h := hsz
    simp only [List.cons_append, List.nil_append, DataW.weightsEach] at h
    exact (all_left h).1)
  clear hA0 hval0 hsz0 hsz
  have hlaw : Calls Tryz.prog 9 #[.agg #[.int .i64 kd, .string nm, .string tx, .slice ak nk ck, .slice a1 n1 c1, .slice a2 n2 c2], .agg #[.int .i64 kv, .string vx, .slice akv nkv ckv, .slice a1v n1v c1v]] W (LawQ W) := law_keysValues hb hbv hmv hmv1 (MLe.refl _)
  refine hlaw.mono fun e W' ⟨he, bel⟩ => ?_
  subst he
  exact ⟨_, rfl, _, _, _, [], _, [], hW', trodAll_mk1 (shut_bool Tryz.underlying4 _), (trodAll_cons_mk (Below.trod laidOut_tryz (by kernel_rfl) (of_decide_eq_true (by kernel_rfl)) k0 bel lt0) (trodAll_cons_mk (Below.trod laidOut_tryz (by kernel_rfl) (of_decide_eq_true (by kernel_rfl)) k1 bel lt1) trodAll_mk0)), rfl, bel.frame _, fun h => by cases h⟩
theorem fnKeysAndValues_over : Rows.fnKeysAndValuesRow.holds Tryz.pinned (OpenSpec.ofChange Rows.fnKeysAndValuesSpec) :=
  OpenClaim.holds_of_wide 9 Tryz.f9 rfl rfl rfl rfl rfl rfl rfl ⟨rfl, rfl, rfl, rfl, rfl⟩ rfl rfl rfl rfl rfl (by kernel_rfl) Tryz.func9 (by kernel_rfl)
    (of_decide_eq_true (by kernel_rfl)) (by unfold Func.isWrapper; first | (rw [if_pos (by decide +kernel)]; kernel_rfl) | (rw [if_neg (by decide +kernel)]; exact ⟨rfl, rfl⟩))
    (fun os started H enc _ => fnKeysAndValues_lifted os started H enc)
theorem fnKeysAndValues_holds : Rows.FnKeysAndValuesSaid := fnKeysAndValues_over
#print axioms fnKeysAndValues_holds
end Go.Proofs.YtaglgokeejjagaaGreat
