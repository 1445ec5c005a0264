/- 'Select' of the thin package. -/
import Derived.Test.YtaglgokeejjagaaGreatBSr
import Derived.Test.YtaglgokeejjagaaGreatDigits
import Derived.Laws.IdiomStrings
import Derived.Test.YtaglgokeejjagaaGreatObjQ
import Derived.Test.YtaglgokeejjagaaGreatBui3
import Derived.Test.YtaglgokeejjagaaGreatInTy
/- 'Select' at arrays and numbers; at objects and their static properties. -/
namespace Go.Proofs.YtaglgokeejjagaaGreat
set_option linter.unusedVariables false
set_option linter.unusedSimpArgs false
open Go.RowKit Go.Sort

/-- A type or none, in memory. -/
def RO (m : Mem) (r : Value) : Option ST → Prop
  | none => r = .nilIface
  | some s => RT m r s
theorem RO.mono {m m' : Mem} {r : Value} {o : Option ST} (h : RO m r o) (hm : MLe m m') : RO m' r o := by
  cases o with
  | none => exact h
  | some s => exact RT.mono hm h
end Go.Proofs.YtaglgokeejjagaaGreat
namespace Go.Proofs.YtaglgokeejjagaaGreat
set_option linter.unusedVariables false
set_option linter.unusedSimpArgs false
open Go.RowKit Go.Sort Go.Proofs.YtaglgokeejjagaaGreatW.PrintLast

/-- A result of 'plain' at a type or none. -/
def oI : Option ST → IT
  | none => .mk 0 ⟨#[]⟩ ⟨#[]⟩ [] [] []
  | some s => toI s
def oW : Option ST → Nat
  | none => 0
  | some s => WS s
def SeQ (P : Option ST → Prop) (w : World) (e : Ending) (w' : World) : Prop :=
  ∃ o, P o ∧ ∃ ak nk ck a1 n1 c1 a2 n2 c2, e = .returned (.agg #[.int .i64 (oI o).kind, .string ⟨#[]⟩, .string ⟨#[]⟩, .slice ak nk ck, .slice a1 n1 c1, .slice a2 n2 c2]) ∧ MIT (fr m0 w.heap.size w' none) (itCells (oI o).kind ⟨#[]⟩ ⟨#[]⟩ ak nk ck a1 n1 c1 a2 n2 c2) (oI o) ∧ Below w.heap.size w w'
set_option maxHeartbeats 4000000 in
set_option maxRecDepth 100000 in
theorem plain_nil (w : World) : Calls Tryz.prog 44 #[.nilIface] w (SeQ (· = none) w) := by
  go_enter Tryz.func44, Tryz.ntmps44
  go_wp2
  refine bodyPost_ret (v := .agg #[.int .i64 0, .string ⟨#[]⟩, .string ⟨#[]⟩, .slice none 0 0, .slice none 0 0, .slice none 0 0]) (by simp [results, Tryz.results44, go_sem]) rfl ⟨none, rfl, none, 0, 0, none, 0, 0, none, 0, 0, rfl, ?_, bl_alloc (Below.refl _ _) _⟩
  have h := mit_flat (fr m0 w.heap.size (w.alloc (.cells #[.int .i64 0, .string ⟨#[]⟩, .string ⟨#[]⟩, .slice none 0 0, .slice none 0 0, .slice none 0 0] 25)) none) 0
  rw [toI_eq] at h
  exact h
theorem plainO {P : Option ST → Prop} {o : Option ST} {x : Value} {m : Mem} {w : World} (hp : P o) (hw : oW o ≤ 1000000000) (h : RO m x o) (hm : MLe m w.cell?) : Calls Tryz.prog 44 #[x] w (SeQ P w) := by
  cases o with
  | none =>
    obtain rfl : x = .nilIface := h
    exact (plain_nil w).mono fun e w' ⟨o, ho, h⟩ => ⟨o, by subst ho; exact hp, h⟩
  | some s =>
    refine (plain_any s x m w hw h hm).mono fun e w' h => ⟨some s, hp, ?_⟩
    have hk : (oI (some s)).kind = s.kind := by cases s; rw [oI, toI_eq]; rfl
    rw [hk]
    exact h
end Go.Proofs.YtaglgokeejjagaaGreat
