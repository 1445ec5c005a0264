/- 'value' lays a value as the package takes it. -/
import Derived.Test.YtaglgokeejjagaaGreatOwn
import Derived.Test.YtaglgokeejjagaaGreatPrV
import Derived.Maps.RangeWalk
import Derived.Maps.Views
import Derived.Sort.Walk0
/- How a value lies in memory as the package takes it. -/
namespace Go.Proofs.YtaglgokeejjagaaGreat
set_option linter.unusedVariables false
set_option linter.unusedSimpArgs false
open Go.RowKit Go.Sort Go.Maps

/-- A row of values that the call appends to. -/
def EV (_ : Mem) (c : List Value) (v : Value) : Prop := c = [v]
theorem em_EV : EM EV := fun _ _ _ _ _ h => h
def m0 : Mem := fun _ => none
theorem lo_m0 (B : Nat) : Lo m0 B := fun a x h => by cases h
end Go.Proofs.YtaglgokeejjagaaGreat
namespace Go.Proofs.YtaglgokeejjagaaGreat
set_option linter.unusedVariables false
set_option linter.unusedSimpArgs false
open Go.RowKit Go.Sort Go.Maps

theorem less_iff {a b : ByteArray} : Less a b ↔ a.toList < b.toList := by unfold Less; rw [bytesLess_eq]; simp
theorem less_trans {a b c : ByteArray} (h : Less a b) (k : Less b c) : Less a c := less_iff.2 (List.lt_trans (less_iff.1 h) (less_iff.1 k))
theorem less_irrefl {a : ByteArray} : ¬ Less a a := fun h => List.lt_irrefl _ (less_iff.1 h)
theorem chain_less {ks : List ByteArray} (h : ∀ i (h : i + 1 < ks.length), Less (ks[i]'(Nat.lt_of_succ_lt h)) ks[i + 1]) : ∀ (i j : Nat) (hij : i < j) (hj : j < ks.length), Less (ks[i]'(Nat.lt_trans hij hj)) ks[j] := by
  intro i j hij
  induction j with
  | zero => omega
  | succ j ih =>
    intro hj
    by_cases e : i = j
    · subst e; exact h i hj
    · exact less_trans (ih (by omega) (by omega)) (h j hj)
theorem PV.kid {t : Vl} (h : PV t) {i : Nat} (hi : i < t.kids.length) : PV t.kids[i] := by cases t; exact h.out.2.2.2.2.2.2.2 i hi

section
variable {tx : ByteArray} {ks : List ByteArray} {kids : List Vl} {m : Mem} {ak : Option Addr} {ck : Nat} {a1 : Option Addr} {c1 : Nat} {w : World}
end

end Go.Proofs.YtaglgokeejjagaaGreat
