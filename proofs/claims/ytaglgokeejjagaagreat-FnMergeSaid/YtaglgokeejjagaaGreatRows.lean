/-
  NARROWER THAN 'FOR EVERY INPUT', by the rows' own cells (each row's printed sentence says how): FnSelect: loops · FnSelectItem: loops · FnMerge: loops · FnTypeOf: loops · FnTypeOfExactly: loops · FnTypeOfMissing: loops · FnKeysAndValues: loops.
  DERIVED. THE GIVEN ROWS OF THIS SEAT. 7 by the template 'for every input the law returns true; each argument reads behind the call as it read before'; 0 by the template 'total and deterministic' (their statements: YtaglgokeejjagaaGreatTotals.lean).
  GIVEN WITH THE SEED: the statements are not yours to turn. If you find one false, say at which input.
  Laid BY PROGRAM, IN A SANDBOX (cutbox-rows.mjs): the forced cells as the released guide's own fill.sh prints them over the translation a741d8e689f6439c… (all of the seat's roots in one cut). By AI agents, Wed Nov 11 2026. No macro, syntax, notation, axiom, sorry.
-/
import Derived.Test.YtaglgokeejjagaaGreatChecked
import GoSem.Claim
import GoSem.ClaimJoined
import GoSem.ClaimMapViews
import Derived.JoinedTies
import Derived.KernelRfl
namespace Go.Proofs.YtaglgokeejjagaaGreat
/- THE CELL 'sum', in the pinned program and in every row, IS THE sha256 OF THE DUMP (.gsa) THAT YtaglgokeejjagaaGreatProg.lean LOADS. Nothing in Lean hashes anything: it is a label: what it is worth is what the hold of that sum in a sandbox is worth. -/
noncomputable def Tryz.pinned : Pinned := { name := "ytaglgokeejjagaagreat", sum := "a741d8e689f6439c9586ca2585b4117856424623d0552d74897867dee1003a0b", checked := Tryz.checked }
namespace Rows
def none {H : Type} : Left H := { results := [], args := [] }

/-- 'laws.FnSelect': WHATEVER THE INPUT: true; the input reads as it did. -/
def fnSelectSpec : ChangeSpec := { name := "fnSelect", fn := fun _ => fun
  | [d1, d2] => { results := [.lit (.bool true)], args := [d1, d2] }
  | _ => none }
def fnSelectRow : OpenClaim := { program := "ytaglgokeejjagaagreat", sum := "a741d8e689f6439c9586ca2585b4117856424623d0552d74897867dee1003a0b", func := "pub-opatypes/laws.FnSelect", spec := "fnSelect", unfollowed := true, recurses := true, loops := true, apart := false }
def FnSelectSaid : Prop := fnSelectRow.holds Tryz.pinned (OpenSpec.ofChange fnSelectSpec)

/-- ITS FALSE NEIGHBOUR: 'it returns false'. Refute it at one input. -/
def fnSelectWrong : ChangeSpec := { name := "fnSelect", fn := fun _ => fun
  | [d1, d2] => { results := [.lit (.bool false)], args := [d1, d2] }
  | _ => none }
def FnSelectWrongFalsely : Prop := fnSelectRow.holds Tryz.pinned (OpenSpec.ofChange fnSelectWrong)

/-- 'laws.FnSelectItem': WHATEVER THE INPUT: true; the input reads as it did. -/
def fnSelectItemSpec : ChangeSpec := { name := "fnSelectItem", fn := fun _ => fun
  | [d1, d2] => { results := [.lit (.bool true)], args := [d1, d2] }
  | _ => none }
def fnSelectItemRow : OpenClaim := { program := "ytaglgokeejjagaagreat", sum := "a741d8e689f6439c9586ca2585b4117856424623d0552d74897867dee1003a0b", func := "pub-opatypes/laws.FnSelectItem", spec := "fnSelectItem", unfollowed := true, recurses := true, loops := true, apart := false }
def FnSelectItemSaid : Prop := fnSelectItemRow.holds Tryz.pinned (OpenSpec.ofChange fnSelectItemSpec)

/-- ITS FALSE NEIGHBOUR: 'it returns false'. Refute it at one input. -/
def fnSelectItemWrong : ChangeSpec := { name := "fnSelectItem", fn := fun _ => fun
  | [d1, d2] => { results := [.lit (.bool false)], args := [d1, d2] }
  | _ => none }
def FnSelectItemWrongFalsely : Prop := fnSelectItemRow.holds Tryz.pinned (OpenSpec.ofChange fnSelectItemWrong)

/-- 'laws.FnMerge': WHATEVER THE INPUT: true; the input reads as it did. -/
def fnMergeSpec : ChangeSpec := { name := "fnMerge", fn := fun _ => fun
  | [d1, d2, d3, d4] => { results := [.lit (.bool true)], args := [d1, d2, d3, d4] }
  | _ => none }
def fnMergeRow : OpenClaim := { program := "ytaglgokeejjagaagreat", sum := "a741d8e689f6439c9586ca2585b4117856424623d0552d74897867dee1003a0b", func := "pub-opatypes/laws.FnMerge", spec := "fnMerge", unfollowed := true, recurses := true, loops := true, apart := false }
def FnMergeSaid : Prop := fnMergeRow.holds Tryz.pinned (OpenSpec.ofChange fnMergeSpec)

/-- ITS FALSE NEIGHBOUR: 'it returns false'. Refute it at one input. -/
def fnMergeWrong : ChangeSpec := { name := "fnMerge", fn := fun _ => fun
  | [d1, d2, d3, d4] => { results := [.lit (.bool false)], args := [d1, d2, d3, d4] }
  | _ => none }
def FnMergeWrongFalsely : Prop := fnMergeRow.holds Tryz.pinned (OpenSpec.ofChange fnMergeWrong)

/-- 'laws.FnTypeOf': WHATEVER THE INPUT: true; the input reads as it did. -/
def fnTypeOfSpec : ChangeSpec := { name := "fnTypeOf", fn := fun _ => fun
  | [d] => { results := [.lit (.bool true)], args := [d] }
  | _ => none }
def fnTypeOfRow : OpenClaim := { program := "ytaglgokeejjagaagreat", sum := "a741d8e689f6439c9586ca2585b4117856424623d0552d74897867dee1003a0b", func := "pub-opatypes/laws.FnTypeOf", spec := "fnTypeOf", unfollowed := true, recurses := true, loops := true, apart := false }
def FnTypeOfSaid : Prop := fnTypeOfRow.holds Tryz.pinned (OpenSpec.ofChange fnTypeOfSpec)

/-- ITS FALSE NEIGHBOUR: 'it returns false'. Refute it at one input. -/
def fnTypeOfWrong : ChangeSpec := { name := "fnTypeOf", fn := fun _ => fun
  | [d] => { results := [.lit (.bool false)], args := [d] }
  | _ => none }
def FnTypeOfWrongFalsely : Prop := fnTypeOfRow.holds Tryz.pinned (OpenSpec.ofChange fnTypeOfWrong)

/-- 'laws.FnTypeOfExactly': WHATEVER THE INPUT: true; the input reads as it did. -/
def fnTypeOfExactlySpec : ChangeSpec := { name := "fnTypeOfExactly", fn := fun _ => fun
  | [d] => { results := [.lit (.bool true)], args := [d] }
  | _ => none }
def fnTypeOfExactlyRow : OpenClaim := { program := "ytaglgokeejjagaagreat", sum := "a741d8e689f6439c9586ca2585b4117856424623d0552d74897867dee1003a0b", func := "pub-opatypes/laws.FnTypeOfExactly", spec := "fnTypeOfExactly", unfollowed := true, recurses := true, loops := true, apart := false }
def FnTypeOfExactlySaid : Prop := fnTypeOfExactlyRow.holds Tryz.pinned (OpenSpec.ofChange fnTypeOfExactlySpec)

/-- ITS FALSE NEIGHBOUR: 'it returns false'. Refute it at one input. -/
def fnTypeOfExactlyWrong : ChangeSpec := { name := "fnTypeOfExactly", fn := fun _ => fun
  | [d] => { results := [.lit (.bool false)], args := [d] }
  | _ => none }
def FnTypeOfExactlyWrongFalsely : Prop := fnTypeOfExactlyRow.holds Tryz.pinned (OpenSpec.ofChange fnTypeOfExactlyWrong)

/-- 'laws.FnTypeOfMissing': WHATEVER THE INPUT: true; the input reads as it did. -/
def fnTypeOfMissingSpec : ChangeSpec := { name := "fnTypeOfMissing", fn := fun _ => fun
  | [d1, d2] => { results := [.lit (.bool true)], args := [d1, d2] }
  | _ => none }
def fnTypeOfMissingRow : OpenClaim := { program := "ytaglgokeejjagaagreat", sum := "a741d8e689f6439c9586ca2585b4117856424623d0552d74897867dee1003a0b", func := "pub-opatypes/laws.FnTypeOfMissing", spec := "fnTypeOfMissing", unfollowed := true, recurses := true, loops := true, apart := false }
def FnTypeOfMissingSaid : Prop := fnTypeOfMissingRow.holds Tryz.pinned (OpenSpec.ofChange fnTypeOfMissingSpec)

/-- ITS FALSE NEIGHBOUR: 'it returns false'. Refute it at one input. -/
def fnTypeOfMissingWrong : ChangeSpec := { name := "fnTypeOfMissing", fn := fun _ => fun
  | [d1, d2] => { results := [.lit (.bool false)], args := [d1, d2] }
  | _ => none }
def FnTypeOfMissingWrongFalsely : Prop := fnTypeOfMissingRow.holds Tryz.pinned (OpenSpec.ofChange fnTypeOfMissingWrong)

/-- 'laws.FnKeysAndValues': WHATEVER THE INPUT: true; the input reads as it did. -/
def fnKeysAndValuesSpec : ChangeSpec := { name := "fnKeysAndValues", fn := fun _ => fun
  | [d1, d2] => { results := [.lit (.bool true)], args := [d1, d2] }
  | _ => none }
def fnKeysAndValuesRow : OpenClaim := { program := "ytaglgokeejjagaagreat", sum := "a741d8e689f6439c9586ca2585b4117856424623d0552d74897867dee1003a0b", func := "pub-opatypes/laws.FnKeysAndValues", spec := "fnKeysAndValues", unfollowed := true, recurses := true, loops := true, apart := false }
def FnKeysAndValuesSaid : Prop := fnKeysAndValuesRow.holds Tryz.pinned (OpenSpec.ofChange fnKeysAndValuesSpec)

/-- ITS FALSE NEIGHBOUR: 'it returns false'. Refute it at one input. -/
def fnKeysAndValuesWrong : ChangeSpec := { name := "fnKeysAndValues", fn := fun _ => fun
  | [d1, d2] => { results := [.lit (.bool false)], args := [d1, d2] }
  | _ => none }
def FnKeysAndValuesWrongFalsely : Prop := fnKeysAndValuesRow.holds Tryz.pinned (OpenSpec.ofChange fnKeysAndValuesWrong)

/- THE SECOND FORM. 'bulk': how many values and letters a reading holds, each counted each time it is reached (what is shared counts as often as it is met; a slice's spare places count too). A statement '..UptoSaid' is the law's where the arguments, and the package variables that the reading takes, are together of bulk at most 1048576: NARROWER than '..Said'. Prove '..Said' where nothing that the law and all that it calls make is longer than what came in: it says more and counts as full. Else prove '..UptoSaid'. A law counts once. -/
mutual
def uptoBulk {H : Type} : DataW H → Nat
  | .lit (.string bytes) => bytes.length + 1
  | .lit _ => 1
  | .nil => 1
  | .ptr d => uptoBulk d + 1
  | .slice elems spare => uptoBulkAll elems + uptoBulkAll spare + 1
  | .agg parts => uptoBulkAll parts + 1
  | .iface _ d => uptoBulk d + 1
  | .map entries => uptoBulkEntries entries + 1
  | .held _ => 1
def uptoBulkAll {H : Type} : List (DataW H) → Nat
  | [] => 0
  | d :: r => uptoBulk d + uptoBulkAll r
def uptoBulkEntries {H : Type} : List (Lit × DataW H) → Nat
  | [] => 0
  | x :: r => uptoBulkEntry x + uptoBulkEntries r
def uptoBulkEntry {H : Type} : Lit × DataW H → Nat
  | (.string bytes, d) => bytes.length + uptoBulk d + 1
  | (_, d) => uptoBulk d + 1
 end
def uptoSmall : (H : Type) → List (DataW H) → Bool := fun _ ds => decide (uptoBulkAll ds ≤ 1048576)
def OpenSpec.upto (s : _root_.Go.ChangeSpec) : _root_.Go.OpenSpec := { _root_.Go.OpenSpec.ofChange s with cond := some uptoSmall }

/-- 'laws.FnSelect', WHERE WHAT IT READS IS OF BULK AT MOST 1048576: true; the input reads as it did. -/
def fnSelectUptoRow : OpenClaim := { program := "ytaglgokeejjagaagreat", sum := "a741d8e689f6439c9586ca2585b4117856424623d0552d74897867dee1003a0b", func := "pub-opatypes/laws.FnSelect", spec := "fnSelect", unfollowed := true, recurses := true, loops := true, apart := false, narrowed := true }
def FnSelectUptoSaid : Prop := fnSelectUptoRow.holds Tryz.pinned (OpenSpec.upto fnSelectSpec)

/-- 'laws.FnSelectItem', WHERE WHAT IT READS IS OF BULK AT MOST 1048576: true; the input reads as it did. -/
def fnSelectItemUptoRow : OpenClaim := { program := "ytaglgokeejjagaagreat", sum := "a741d8e689f6439c9586ca2585b4117856424623d0552d74897867dee1003a0b", func := "pub-opatypes/laws.FnSelectItem", spec := "fnSelectItem", unfollowed := true, recurses := true, loops := true, apart := false, narrowed := true }
def FnSelectItemUptoSaid : Prop := fnSelectItemUptoRow.holds Tryz.pinned (OpenSpec.upto fnSelectItemSpec)

/-- 'laws.FnMerge', WHERE WHAT IT READS IS OF BULK AT MOST 1048576: true; the input reads as it did. -/
def fnMergeUptoRow : OpenClaim := { program := "ytaglgokeejjagaagreat", sum := "a741d8e689f6439c9586ca2585b4117856424623d0552d74897867dee1003a0b", func := "pub-opatypes/laws.FnMerge", spec := "fnMerge", unfollowed := true, recurses := true, loops := true, apart := false, narrowed := true }
def FnMergeUptoSaid : Prop := fnMergeUptoRow.holds Tryz.pinned (OpenSpec.upto fnMergeSpec)

/-- 'laws.FnTypeOf', WHERE WHAT IT READS IS OF BULK AT MOST 1048576: true; the input reads as it did. -/
def fnTypeOfUptoRow : OpenClaim := { program := "ytaglgokeejjagaagreat", sum := "a741d8e689f6439c9586ca2585b4117856424623d0552d74897867dee1003a0b", func := "pub-opatypes/laws.FnTypeOf", spec := "fnTypeOf", unfollowed := true, recurses := true, loops := true, apart := false, narrowed := true }
def FnTypeOfUptoSaid : Prop := fnTypeOfUptoRow.holds Tryz.pinned (OpenSpec.upto fnTypeOfSpec)

/-- 'laws.FnTypeOfExactly', WHERE WHAT IT READS IS OF BULK AT MOST 1048576: true; the input reads as it did. -/
def fnTypeOfExactlyUptoRow : OpenClaim := { program := "ytaglgokeejjagaagreat", sum := "a741d8e689f6439c9586ca2585b4117856424623d0552d74897867dee1003a0b", func := "pub-opatypes/laws.FnTypeOfExactly", spec := "fnTypeOfExactly", unfollowed := true, recurses := true, loops := true, apart := false, narrowed := true }
def FnTypeOfExactlyUptoSaid : Prop := fnTypeOfExactlyUptoRow.holds Tryz.pinned (OpenSpec.upto fnTypeOfExactlySpec)

/-- 'laws.FnTypeOfMissing', WHERE WHAT IT READS IS OF BULK AT MOST 1048576: true; the input reads as it did. -/
def fnTypeOfMissingUptoRow : OpenClaim := { program := "ytaglgokeejjagaagreat", sum := "a741d8e689f6439c9586ca2585b4117856424623d0552d74897867dee1003a0b", func := "pub-opatypes/laws.FnTypeOfMissing", spec := "fnTypeOfMissing", unfollowed := true, recurses := true, loops := true, apart := false, narrowed := true }
def FnTypeOfMissingUptoSaid : Prop := fnTypeOfMissingUptoRow.holds Tryz.pinned (OpenSpec.upto fnTypeOfMissingSpec)

/-- 'laws.FnKeysAndValues', WHERE WHAT IT READS IS OF BULK AT MOST 1048576: true; the input reads as it did. -/
def fnKeysAndValuesUptoRow : OpenClaim := { program := "ytaglgokeejjagaagreat", sum := "a741d8e689f6439c9586ca2585b4117856424623d0552d74897867dee1003a0b", func := "pub-opatypes/laws.FnKeysAndValues", spec := "fnKeysAndValues", unfollowed := true, recurses := true, loops := true, apart := false, narrowed := true }
def FnKeysAndValuesUptoSaid : Prop := fnKeysAndValuesUptoRow.holds Tryz.pinned (OpenSpec.upto fnKeysAndValuesSpec)

end Rows
end Go.Proofs.YtaglgokeejjagaaGreat
