/- Proved: fnTypeOfMissing_holds, that the law FnTypeOfMissing answers true at every input that the given statement speaks of (Rows.FnTypeOfMissingSaid). Conditions: none beside those of the given statement itself. -/
import Derived.Test.YtaglgokeejjagaaGreatRows
import Derived.Test.YtaglgokeejjagaaGreatLawM2
import Derived.Test.YtaglgokeejjagaaGreatDataV
import Derived.WalkKit
import Derived.ProofKit
import Derived.OpenShut
import Derived.ShutString
import Derived.ChangeOld
import Derived.Below
import Derived.SizedLaws
namespace Go.Proofs.YtaglgokeejjagaaGreat
open Go.ChangeShapes Go.WideShapes Go.ChangeAt Go.RowKit
set_option linter.unusedVariables false
theorem ownKnob_none : ownKnob Tryz.prog.godebug = none := by kernel_rfl
theorem laidOut_tryz : laidOutB Tryz.prog = true := by kernel_rfl

set_option maxRecDepth 100000 in
theorem fnTypeOfMissing_lifted (os : Os) (started : os.Started) (H : Type) (enc : TypeId × Value → H) :
    ReturnsInHanded {} Tryz.checked os 8 .any (Rows.fnTypeOfMissingSpec.pre6 enc Tryz.prog Tryz.f8 Rows.fnTypeOfMissingRow.domain false) (Rows.fnTypeOfMissingSpec.post enc Tryz.prog Tryz.f8 false true false false) := by
  refine returnsInHanded_of_change_sized (C := Tryz.checked) ownKnob_none started (by kernel_rfl) Tryz.func8
    (ChangeSpec.witness6 (enc := enc) (C := Tryz.checked) false ⟨#[], #[.agg #[.int .i64 0, .string ByteArray.empty, .slice none 0 0, .slice none 0 0], .int .i64 0], []⟩ 8 (by kernel_rfl) (by kernel_rfl) (by kernel_rfl) (by kernel_rfl)) ?_
  intro W base args ds gs before hval0 hW hcnd hsz0 _
  have hsz : (DataW.weightsEach Tryz.prog (Tryz.f8.params.toList ++ Rows.fnTypeOfMissingSpec.plain.varTypes Tryz.prog) (ds ++ gs)).all (· ≤ reachBytes) = true := hsz0
  have hval : ∀ (j : Nat) t v, Tryz.f8.params[j]? = some t → args[j]? = some v → Value.okWide Tryz.prog W .any base t v := hval0
  have hW' := hW
  obtain ⟨p, q, hA0, hV, rfl, hfz, hnd⟩ := hW
  have hA : DataW.TrodAll enc Tryz.prog W 0 (fun _ => true) true Tryz.f8.params.toList args.toList ds p := hA0
  rw [Tryz.params8] at hA hval hsz
  obtain ⟨v0, vs0, d0, ds0, p0, q0, hargs, rfl, rfl, h0, r0⟩ := trodAll_cons hA
  obtain ⟨v1, vs1, d1, ds1, p1, q1, rfl, rfl, rfl, h1, r1⟩ := trodAll_cons r0
  obtain ⟨rfl, rfl, rfl⟩ := trodAll_nil r1
  obtain rfl : args = #[v0, v1] := by cases args; simp_all
  obtain ⟨rfl, rfl⟩ := trodVars_none hV
  have k0 := h0
  have lt0 : ∀ x ∈ p0, x.block < W.heap.size := by obtain ⟨m, hm⟩ := k0; exact DataW.trod_lt m _ _ _ hm
  obtain ⟨n, rfl, rfl, rfl, wn⟩ := open_int Tryz.underlying3 (hval 1 3 v1 rfl rfl) h1
  have hok := hval 0 29 v0 rfl rfl
  obtain ⟨cs, rfl⟩ : ∃ cs, v0 = .agg cs := by
    unfold Value.okWide at hok
    rw [Tryz.underlying29] at hok
    obtain ⟨cs, e, _⟩ := hok
    exact ⟨cs, e⟩
  obtain ⟨fuel, hf⟩ := h0
  obtain ⟨t, ⟨kd, tx, ak, nk, ck, a1, n1, c1, hcs⟩, hmv, hbd⟩ := val_data fuel _ _ hf
  have hcs' : cs = #[.int .i64 kd, .string tx, .slice ak nk ck, .slice a1 n1 c1] := by
    have h : cs.toList = [.int .i64 kd, .string tx, .slice ak nk ck, .slice a1 n1 c1] := hcs
    cases cs; simpa using h
  subst hcs'
  have hb : BdV t := hbd (by
    have h := hsz
    simp only [List.cons_append, List.nil_append, DataW.weightsEach] at h
    exact (all_left h).1)
  clear hA0 hval0 hsz0 hsz
  have hlaw : Calls Tryz.prog 8 #[.agg #[.int .i64 kd, .string tx, .slice ak nk ck, .slice a1 n1 c1], .int .i64 n] W (LawP W) := by
    by_cases hall : PV (valOf t) ∧ kd = 6 ∧ 0 ≤ n ∧ n < (nk : Int)
    · obtain ⟨hp, rfl, hn0, hn1⟩ := hall
      obtain ⟨k, rfl⟩ : ∃ k : Nat, n = (k : Int) := ⟨n.toNat, by omega⟩
      obtain ⟨_, _, _, e4, _⟩ := hmv.open
      exact law_missing hb hmv (MLe.refl _) hp (by omega)
    · refine law_missing_no hb hmv (MLe.refl _) _ _ _ _ rfl rfl rfl rfl ?_
      by_cases hp : PV (valOf t)
      · by_cases h6 : kd = 6
        · by_cases h0 : n < 0
          · exact .inr (.inr (.inl (by simp [h0])))
          · have hge : ¬ n < (nk : Int) := fun h => hall ⟨hp, h6, by omega, h⟩
            exact .inr (.inr (.inr (by simp; omega)))
        · exact .inr (.inl (by simp [h6]))
      · exact .inl (properV_false hp)
  refine hlaw.mono fun e W' ⟨he, bel⟩ => ?_
  subst he
  exact ⟨_, rfl, _, _, _, [], _, [], hW', trodAll_mk1 (shut_bool Tryz.underlying4 _), (trodAll_cons_mk (Below.trod laidOut_tryz (by kernel_rfl) (of_decide_eq_true (by kernel_rfl)) k0 bel lt0) (trodAll_cons_mk (shut_int Tryz.underlying3 wn) trodAll_mk0)), rfl, bel.frame _, fun h => by cases h⟩
theorem fnTypeOfMissing_over : Rows.fnTypeOfMissingRow.holds Tryz.pinned (OpenSpec.ofChange Rows.fnTypeOfMissingSpec) :=
  OpenClaim.holds_of_wide 8 Tryz.f8 rfl rfl rfl rfl rfl rfl rfl ⟨rfl, rfl, rfl, rfl, rfl⟩ rfl rfl rfl rfl rfl (by kernel_rfl) Tryz.func8 (by kernel_rfl)
    (of_decide_eq_true (by kernel_rfl)) (by unfold Func.isWrapper; first | (rw [if_pos (by decide +kernel)]; kernel_rfl) | (rw [if_neg (by decide +kernel)]; exact ⟨rfl, rfl⟩))
    (fun os started H enc _ => fnTypeOfMissing_lifted os started H enc)
theorem fnTypeOfMissing_holds : Rows.FnTypeOfMissingSaid := fnTypeOfMissing_over
#print axioms fnTypeOfMissing_holds
end Go.Proofs.YtaglgokeejjagaaGreat
