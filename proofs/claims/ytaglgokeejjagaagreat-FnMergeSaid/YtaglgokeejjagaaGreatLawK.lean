/- 'plain' of the laws at a key; 'Mixed'; 'Entries'. -/
import Derived.Test.YtaglgokeejjagaaGreatISel
import Derived.Test.YtaglgokeejjagaaGreatWorks
import Derived.Test.YtaglgokeejjagaaGreatOrC
import Derived.Test.YtaglgokeejjagaaGreatTof
import Derived.Test.YtaglgokeejjagaaGreatPrV
import Derived.Test.YtaglgokeejjagaaGreatDigits
import Derived.Laws.IdiomStrings
import Derived.Test.YtaglgokeejjagaaGreatBSr
import Derived.Test.YtaglgokeejjagaaGreatPtb
import Derived.Test.YtaglgokeejjagaaGreatSpD
import Derived.Test.YtaglgokeejjagaaGreatKGV
/- 'Select' at a type that is no any type. -/
namespace Go.Proofs.YtaglgokeejjagaaGreat
set_option linter.unusedVariables false
set_option linter.unusedSimpArgs false
open Go.RowKit Go.Sort

/-- A fixed result, blocks may be laid. -/
def FxP (v : Value) (w : World) (e : Ending) (w' : World) : Prop := e = .returned v ∧ Gr w w'
set_option maxHeartbeats 2000000 in
set_option maxRecDepth 100000 in
theorem ty_text {x : ByteArray} (w : World) : Calls Tryz.prog 51 #[.iface 9 (.string x)] w (FxP (.iface 93 (.agg #[])) w) := by
  go_enter Tryz.func51, Tryz.ntmps51
  go_wp2_with (first | (go_at_call 76; refine (new76 _).mono ?_; rintro e w2 ⟨rfl, g⟩) | go_in)
  go_ret
  exact ⟨rfl, g⟩
/-- What 'Select' gives, blocks may be laid. -/
def SlQ (m : Mem) (P : Option ST → Prop) (w : World) (e : Ending) (w' : World) : Prop := ∃ y o, P o ∧ e = .returned y ∧ RO m y o ∧ Gr w w'
end Go.Proofs.YtaglgokeejjagaaGreat
/- 'Select' at an object type and a text. -/
namespace Go.Proofs.YtaglgokeejjagaaGreat
set_option linter.unusedVariables false
set_option linter.unusedSimpArgs false
open Go.RowKit Go.Sort

end Go.Proofs.YtaglgokeejjagaaGreat
/- 'Select' at an any type. -/
namespace Go.Proofs.YtaglgokeejjagaaGreat
set_option linter.unusedVariables false
set_option linter.unusedSimpArgs false
open Go.RowKit Go.Sort

theorem any_zero {m : Mem} {v : Value} {l : List ST} (h : RT m v (.mk 8 [] l [])) : cmpT (.mk 8 [] l []) (.mk 8 [] [] []) = 0 ↔ l = [] := by
  rw [cmpT_zero h.nt (.any (by simp))]
  exact ⟨fun e => by injection e, fun e => by rw [e]⟩
end Go.Proofs.YtaglgokeejjagaaGreat
namespace Go.Proofs.YtaglgokeejjagaaGreat
set_option linter.unusedVariables false
set_option linter.unusedSimpArgs false
open Go.RowKit Go.Sort

end Go.Proofs.YtaglgokeejjagaaGreat
/- What the laws of entries need of one key: plain laws. -/
namespace Go.Proofs.YtaglgokeejjagaaGreat
set_option linter.unusedVariables false
set_option linter.unusedSimpArgs false
open Go.RowKit Go.Sort

theorem BT.wt {s : ST} (h : BT s) : Wt s := by
  induction h with
  | null | bool | num | str => exact .mk (by decide) (Nat.le_refl _) (by simp) (by simp)
  | arr h1 h2 h3 ih ih2 => exact .mk (by decide) (Nat.zero_le _) ih ih2
  | obj hk hd h1 h2 h3 ih ih2 => exact .mk (by decide) (by simp; omega) ih ih2
  | set h ih => exact .mk (by decide) (Nat.zero_le _) (fun k hk => by simp at hk; rw [hk]; exact ih) (by simp)
  | any h1 ih => exact .mk (by decide) (Nat.zero_le _) ih (by simp)
def LawQ (w : World) (e : Ending) (w' : World) : Prop := e = .returned (.bool true) ∧ Below w.heap.size w w'
def BoP (b : Bool) (w : World) (e : Ending) (w' : World) : Prop := e = .returned (.bool b) ∧ Gr w w'
theorem kind_of {t : IT} (h : WI t ≤ 5000) : kindOf t = toS t := by unfold kindOf; rw [if_pos h]
end Go.Proofs.YtaglgokeejjagaaGreat
