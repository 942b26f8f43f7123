/-
  NARROWER THAN 'FOR EVERY INPUT', by the rows' own cells (each row's printed sentence says how): FnContains: loops · FnContainsItself: loops · FnNil: loops · FnNilWithin: loops · FnNormal: loops · FnOrdered: loops · FnVariadic: loops · FnFunctions: loops · FnPrint: loops · FnSorted: loops · FnOr: loops · FnOrItself: loops · FnOrContains: loops · FnOrSuperset: loops.
  DERIVED. THE GIVEN ROWS OF THIS SEAT. 14 by the template 'for every input the law returns true; each argument reads behind the call as it read before'; 0 by the template 'total and deterministic' (their statements: YtpmfjbmfjfhghaaGreatTotals.lean).
  GIVEN WITH THE SEED: the statements are not yours to turn. If you find one false, say at which input.
  Laid BY PROGRAM, IN A SANDBOX (cutbox-rows.mjs): the forced cells as the released guide's own fill.sh prints them over the translation c8b0c7bc0a86f037… (all of the seat's roots in one cut). By AI agents, Wed Nov 11 2026. No macro, syntax, notation, axiom, sorry.
-/
import Derived.Test.YtpmfjbmfjfhghaaGreatChecked
import GoSem.Claim
import GoSem.ClaimJoined
import GoSem.ClaimMapViews
import Derived.JoinedTies
import Derived.KernelRfl
namespace Go.Proofs.YtpmfjbmfjfhghaaGreat
/- THE CELL 'sum', in the pinned program and in every row, IS THE sha256 OF THE DUMP (.gsa) THAT YtpmfjbmfjfhghaaGreatProg.lean LOADS. Nothing in Lean hashes anything: it is a label: what it is worth is what the hold of that sum in a sandbox is worth. -/
noncomputable def Tryz.pinned : Pinned := { name := "ytpmfjbmfjfhghaagreat", sum := "c8b0c7bc0a86f037909f5c3b306c4ccfa2b50b5ba7c1c55b59b507ea6ea4a0ae", checked := Tryz.checked }
namespace Rows
def none {H : Type} : Left H := { results := [], args := [] }

/-- 'laws.FnContains': WHATEVER THE INPUT: true; the input reads as it did. -/
def fnContainsSpec : ChangeSpec := { name := "fnContains", fn := fun _ => fun
  | [d1, d2, d3] => { results := [.lit (.bool true)], args := [d1, d2, d3] }
  | _ => none }
def fnContainsRow : OpenClaim := { program := "ytpmfjbmfjfhghaagreat", sum := "c8b0c7bc0a86f037909f5c3b306c4ccfa2b50b5ba7c1c55b59b507ea6ea4a0ae", func := "opatypes/laws.FnContains", spec := "fnContains", unfollowed := true, recurses := true, loops := true, apart := false }
def FnContainsSaid : Prop := fnContainsRow.holds Tryz.pinned (OpenSpec.ofChange fnContainsSpec)

/-- ITS FALSE NEIGHBOUR: 'it returns false'. Refute it at one input. -/
def fnContainsWrong : ChangeSpec := { name := "fnContains", fn := fun _ => fun
  | [d1, d2, d3] => { results := [.lit (.bool false)], args := [d1, d2, d3] }
  | _ => none }
def FnContainsWrongFalsely : Prop := fnContainsRow.holds Tryz.pinned (OpenSpec.ofChange fnContainsWrong)

/-- 'laws.FnContainsItself': WHATEVER THE INPUT: true; the input reads as it did. -/
def fnContainsItselfSpec : ChangeSpec := { name := "fnContainsItself", fn := fun _ => fun
  | [d] => { results := [.lit (.bool true)], args := [d] }
  | _ => none }
def fnContainsItselfRow : OpenClaim := { program := "ytpmfjbmfjfhghaagreat", sum := "c8b0c7bc0a86f037909f5c3b306c4ccfa2b50b5ba7c1c55b59b507ea6ea4a0ae", func := "opatypes/laws.FnContainsItself", spec := "fnContainsItself", unfollowed := true, recurses := true, loops := true, apart := false }
def FnContainsItselfSaid : Prop := fnContainsItselfRow.holds Tryz.pinned (OpenSpec.ofChange fnContainsItselfSpec)

/-- ITS FALSE NEIGHBOUR: 'it returns false'. Refute it at one input. -/
def fnContainsItselfWrong : ChangeSpec := { name := "fnContainsItself", fn := fun _ => fun
  | [d] => { results := [.lit (.bool false)], args := [d] }
  | _ => none }
def FnContainsItselfWrongFalsely : Prop := fnContainsItselfRow.holds Tryz.pinned (OpenSpec.ofChange fnContainsItselfWrong)

/-- 'laws.FnNil': WHATEVER THE INPUT: true; the input reads as it did. -/
def fnNilSpec : ChangeSpec := { name := "fnNil", fn := fun _ => fun
  | [d] => { results := [.lit (.bool true)], args := [d] }
  | _ => none }
def fnNilRow : OpenClaim := { program := "ytpmfjbmfjfhghaagreat", sum := "c8b0c7bc0a86f037909f5c3b306c4ccfa2b50b5ba7c1c55b59b507ea6ea4a0ae", func := "opatypes/laws.FnNil", spec := "fnNil", unfollowed := true, recurses := true, loops := true, apart := false }
def FnNilSaid : Prop := fnNilRow.holds Tryz.pinned (OpenSpec.ofChange fnNilSpec)

/-- ITS FALSE NEIGHBOUR: 'it returns false'. Refute it at one input. -/
def fnNilWrong : ChangeSpec := { name := "fnNil", fn := fun _ => fun
  | [d] => { results := [.lit (.bool false)], args := [d] }
  | _ => none }
def FnNilWrongFalsely : Prop := fnNilRow.holds Tryz.pinned (OpenSpec.ofChange fnNilWrong)

/-- 'laws.FnNilWithin': WHATEVER THE INPUT: true; the input reads as it did. -/
def fnNilWithinSpec : ChangeSpec := { name := "fnNilWithin", fn := fun _ => fun
  | [d1, d2] => { results := [.lit (.bool true)], args := [d1, d2] }
  | _ => none }
def fnNilWithinRow : OpenClaim := { program := "ytpmfjbmfjfhghaagreat", sum := "c8b0c7bc0a86f037909f5c3b306c4ccfa2b50b5ba7c1c55b59b507ea6ea4a0ae", func := "opatypes/laws.FnNilWithin", spec := "fnNilWithin", unfollowed := true, recurses := true, loops := true, apart := false }
def FnNilWithinSaid : Prop := fnNilWithinRow.holds Tryz.pinned (OpenSpec.ofChange fnNilWithinSpec)

/-- ITS FALSE NEIGHBOUR: 'it returns false'. Refute it at one input. -/
def fnNilWithinWrong : ChangeSpec := { name := "fnNilWithin", fn := fun _ => fun
  | [d1, d2] => { results := [.lit (.bool false)], args := [d1, d2] }
  | _ => none }
def FnNilWithinWrongFalsely : Prop := fnNilWithinRow.holds Tryz.pinned (OpenSpec.ofChange fnNilWithinWrong)

/-- 'laws.FnNormal': WHATEVER THE INPUT: true; the input reads as it did. -/
def fnNormalSpec : ChangeSpec := { name := "fnNormal", fn := fun _ => fun
  | [d1, d2] => { results := [.lit (.bool true)], args := [d1, d2] }
  | _ => none }
def fnNormalRow : OpenClaim := { program := "ytpmfjbmfjfhghaagreat", sum := "c8b0c7bc0a86f037909f5c3b306c4ccfa2b50b5ba7c1c55b59b507ea6ea4a0ae", func := "opatypes/laws.FnNormal", spec := "fnNormal", unfollowed := true, recurses := true, loops := true, apart := false }
def FnNormalSaid : Prop := fnNormalRow.holds Tryz.pinned (OpenSpec.ofChange fnNormalSpec)

/-- ITS FALSE NEIGHBOUR: 'it returns false'. Refute it at one input. -/
def fnNormalWrong : ChangeSpec := { name := "fnNormal", fn := fun _ => fun
  | [d1, d2] => { results := [.lit (.bool false)], args := [d1, d2] }
  | _ => none }
def FnNormalWrongFalsely : Prop := fnNormalRow.holds Tryz.pinned (OpenSpec.ofChange fnNormalWrong)

/-- 'laws.FnOrdered': WHATEVER THE INPUT: true; the input reads as it did. -/
def fnOrderedSpec : ChangeSpec := { name := "fnOrdered", fn := fun _ => fun
  | [d] => { results := [.lit (.bool true)], args := [d] }
  | _ => none }
def fnOrderedRow : OpenClaim := { program := "ytpmfjbmfjfhghaagreat", sum := "c8b0c7bc0a86f037909f5c3b306c4ccfa2b50b5ba7c1c55b59b507ea6ea4a0ae", func := "opatypes/laws.FnOrdered", spec := "fnOrdered", unfollowed := true, recurses := true, loops := true, apart := false }
def FnOrderedSaid : Prop := fnOrderedRow.holds Tryz.pinned (OpenSpec.ofChange fnOrderedSpec)

/-- ITS FALSE NEIGHBOUR: 'it returns false'. Refute it at one input. -/
def fnOrderedWrong : ChangeSpec := { name := "fnOrdered", fn := fun _ => fun
  | [d] => { results := [.lit (.bool false)], args := [d] }
  | _ => none }
def FnOrderedWrongFalsely : Prop := fnOrderedRow.holds Tryz.pinned (OpenSpec.ofChange fnOrderedWrong)

/-- 'laws.FnVariadic': WHATEVER THE INPUT: true; the input reads as it did. -/
def fnVariadicSpec : ChangeSpec := { name := "fnVariadic", fn := fun _ => fun
  | [d1, d2, d3] => { results := [.lit (.bool true)], args := [d1, d2, d3] }
  | _ => none }
def fnVariadicRow : OpenClaim := { program := "ytpmfjbmfjfhghaagreat", sum := "c8b0c7bc0a86f037909f5c3b306c4ccfa2b50b5ba7c1c55b59b507ea6ea4a0ae", func := "opatypes/laws.FnVariadic", spec := "fnVariadic", unfollowed := true, recurses := true, loops := true, apart := false }
def FnVariadicSaid : Prop := fnVariadicRow.holds Tryz.pinned (OpenSpec.ofChange fnVariadicSpec)

/-- ITS FALSE NEIGHBOUR: 'it returns false'. Refute it at one input. -/
def fnVariadicWrong : ChangeSpec := { name := "fnVariadic", fn := fun _ => fun
  | [d1, d2, d3] => { results := [.lit (.bool false)], args := [d1, d2, d3] }
  | _ => none }
def FnVariadicWrongFalsely : Prop := fnVariadicRow.holds Tryz.pinned (OpenSpec.ofChange fnVariadicWrong)

/-- 'laws.FnFunctions': WHATEVER THE INPUT: true; the input reads as it did. -/
def fnFunctionsSpec : ChangeSpec := { name := "fnFunctions", fn := fun _ => fun
  | [d1, d2, d3, d4] => { results := [.lit (.bool true)], args := [d1, d2, d3, d4] }
  | _ => none }
def fnFunctionsRow : OpenClaim := { program := "ytpmfjbmfjfhghaagreat", sum := "c8b0c7bc0a86f037909f5c3b306c4ccfa2b50b5ba7c1c55b59b507ea6ea4a0ae", func := "opatypes/laws.FnFunctions", spec := "fnFunctions", unfollowed := true, recurses := true, loops := true, apart := false }
def FnFunctionsSaid : Prop := fnFunctionsRow.holds Tryz.pinned (OpenSpec.ofChange fnFunctionsSpec)

/-- ITS FALSE NEIGHBOUR: 'it returns false'. Refute it at one input. -/
def fnFunctionsWrong : ChangeSpec := { name := "fnFunctions", fn := fun _ => fun
  | [d1, d2, d3, d4] => { results := [.lit (.bool false)], args := [d1, d2, d3, d4] }
  | _ => none }
def FnFunctionsWrongFalsely : Prop := fnFunctionsRow.holds Tryz.pinned (OpenSpec.ofChange fnFunctionsWrong)

/-- 'laws.FnPrint': WHATEVER THE INPUT: true; the input reads as it did. -/
def fnPrintSpec : ChangeSpec := { name := "fnPrint", fn := fun _ => fun
  | [d1, d2] => { results := [.lit (.bool true)], args := [d1, d2] }
  | _ => none }
def fnPrintRow : OpenClaim := { program := "ytpmfjbmfjfhghaagreat", sum := "c8b0c7bc0a86f037909f5c3b306c4ccfa2b50b5ba7c1c55b59b507ea6ea4a0ae", func := "opatypes/laws.FnPrint", spec := "fnPrint", unfollowed := true, recurses := true, loops := true, apart := false }
def FnPrintSaid : Prop := fnPrintRow.holds Tryz.pinned (OpenSpec.ofChange fnPrintSpec)

/-- ITS FALSE NEIGHBOUR: 'it returns false'. Refute it at one input. -/
def fnPrintWrong : ChangeSpec := { name := "fnPrint", fn := fun _ => fun
  | [d1, d2] => { results := [.lit (.bool false)], args := [d1, d2] }
  | _ => none }
def FnPrintWrongFalsely : Prop := fnPrintRow.holds Tryz.pinned (OpenSpec.ofChange fnPrintWrong)

/-- 'laws.FnSorted': WHATEVER THE INPUT: true; the input reads as it did. -/
def fnSortedSpec : ChangeSpec := { name := "fnSorted", fn := fun _ => fun
  | [d] => { results := [.lit (.bool true)], args := [d] }
  | _ => none }
def fnSortedRow : OpenClaim := { program := "ytpmfjbmfjfhghaagreat", sum := "c8b0c7bc0a86f037909f5c3b306c4ccfa2b50b5ba7c1c55b59b507ea6ea4a0ae", func := "opatypes/laws.FnSorted", spec := "fnSorted", unfollowed := true, recurses := true, loops := true, apart := false }
def FnSortedSaid : Prop := fnSortedRow.holds Tryz.pinned (OpenSpec.ofChange fnSortedSpec)

/-- ITS FALSE NEIGHBOUR: 'it returns false'. Refute it at one input. -/
def fnSortedWrong : ChangeSpec := { name := "fnSorted", fn := fun _ => fun
  | [d] => { results := [.lit (.bool false)], args := [d] }
  | _ => none }
def FnSortedWrongFalsely : Prop := fnSortedRow.holds Tryz.pinned (OpenSpec.ofChange fnSortedWrong)

/-- 'laws.FnOr': WHATEVER THE INPUT: true; the input reads as it did. -/
def fnOrSpec : ChangeSpec := { name := "fnOr", fn := fun _ => fun
  | [d1, d2, d3] => { results := [.lit (.bool true)], args := [d1, d2, d3] }
  | _ => none }
def fnOrRow : OpenClaim := { program := "ytpmfjbmfjfhghaagreat", sum := "c8b0c7bc0a86f037909f5c3b306c4ccfa2b50b5ba7c1c55b59b507ea6ea4a0ae", func := "opatypes/laws.FnOr", spec := "fnOr", unfollowed := true, recurses := true, loops := true, apart := false }
def FnOrSaid : Prop := fnOrRow.holds Tryz.pinned (OpenSpec.ofChange fnOrSpec)

/-- ITS FALSE NEIGHBOUR: 'it returns false'. Refute it at one input. -/
def fnOrWrong : ChangeSpec := { name := "fnOr", fn := fun _ => fun
  | [d1, d2, d3] => { results := [.lit (.bool false)], args := [d1, d2, d3] }
  | _ => none }
def FnOrWrongFalsely : Prop := fnOrRow.holds Tryz.pinned (OpenSpec.ofChange fnOrWrong)

/-- 'laws.FnOrItself': WHATEVER THE INPUT: true; the input reads as it did. -/
def fnOrItselfSpec : ChangeSpec := { name := "fnOrItself", fn := fun _ => fun
  | [d] => { results := [.lit (.bool true)], args := [d] }
  | _ => none }
def fnOrItselfRow : OpenClaim := { program := "ytpmfjbmfjfhghaagreat", sum := "c8b0c7bc0a86f037909f5c3b306c4ccfa2b50b5ba7c1c55b59b507ea6ea4a0ae", func := "opatypes/laws.FnOrItself", spec := "fnOrItself", unfollowed := true, recurses := true, loops := true, apart := false }
def FnOrItselfSaid : Prop := fnOrItselfRow.holds Tryz.pinned (OpenSpec.ofChange fnOrItselfSpec)

/-- ITS FALSE NEIGHBOUR: 'it returns false'. Refute it at one input. -/
def fnOrItselfWrong : ChangeSpec := { name := "fnOrItself", fn := fun _ => fun
  | [d] => { results := [.lit (.bool false)], args := [d] }
  | _ => none }
def FnOrItselfWrongFalsely : Prop := fnOrItselfRow.holds Tryz.pinned (OpenSpec.ofChange fnOrItselfWrong)

/-- 'laws.FnOrContains': WHATEVER THE INPUT: true; the input reads as it did. -/
def fnOrContainsSpec : ChangeSpec := { name := "fnOrContains", fn := fun _ => fun
  | [d1, d2] => { results := [.lit (.bool true)], args := [d1, d2] }
  | _ => none }
def fnOrContainsRow : OpenClaim := { program := "ytpmfjbmfjfhghaagreat", sum := "c8b0c7bc0a86f037909f5c3b306c4ccfa2b50b5ba7c1c55b59b507ea6ea4a0ae", func := "opatypes/laws.FnOrContains", spec := "fnOrContains", unfollowed := true, recurses := true, loops := true, apart := false }
def FnOrContainsSaid : Prop := fnOrContainsRow.holds Tryz.pinned (OpenSpec.ofChange fnOrContainsSpec)

/-- ITS FALSE NEIGHBOUR: 'it returns false'. Refute it at one input. -/
def fnOrContainsWrong : ChangeSpec := { name := "fnOrContains", fn := fun _ => fun
  | [d1, d2] => { results := [.lit (.bool false)], args := [d1, d2] }
  | _ => none }
def FnOrContainsWrongFalsely : Prop := fnOrContainsRow.holds Tryz.pinned (OpenSpec.ofChange fnOrContainsWrong)

/-- 'laws.FnOrSuperset': WHATEVER THE INPUT: true; the input reads as it did. -/
def fnOrSupersetSpec : ChangeSpec := { name := "fnOrSuperset", fn := fun _ => fun
  | [d1, d2] => { results := [.lit (.bool true)], args := [d1, d2] }
  | _ => none }
def fnOrSupersetRow : OpenClaim := { program := "ytpmfjbmfjfhghaagreat", sum := "c8b0c7bc0a86f037909f5c3b306c4ccfa2b50b5ba7c1c55b59b507ea6ea4a0ae", func := "opatypes/laws.FnOrSuperset", spec := "fnOrSuperset", unfollowed := true, recurses := true, loops := true, apart := false }
def FnOrSupersetSaid : Prop := fnOrSupersetRow.holds Tryz.pinned (OpenSpec.ofChange fnOrSupersetSpec)

/-- ITS FALSE NEIGHBOUR: 'it returns false'. Refute it at one input. -/
def fnOrSupersetWrong : ChangeSpec := { name := "fnOrSuperset", fn := fun _ => fun
  | [d1, d2] => { results := [.lit (.bool false)], args := [d1, d2] }
  | _ => none }
def FnOrSupersetWrongFalsely : Prop := fnOrSupersetRow.holds Tryz.pinned (OpenSpec.ofChange fnOrSupersetWrong)

/- THE SECOND FORM. 'bulk': how many values and letters a reading holds, each counted each time it is reached (what is shared counts as often as it is met; a slice's spare places count too). A statement '..UptoSaid' is the law's where the arguments, and the package variables that the reading takes, are together of bulk at most 1048576: NARROWER than '..Said'. Prove '..Said' where nothing that the law and all that it calls make is longer than what came in: it says more and counts as full. Else prove '..UptoSaid'. A law counts once. -/
mutual
def uptoBulk {H : Type} : DataW H → Nat
  | .lit (.string bytes) => bytes.length + 1
  | .lit _ => 1
  | .nil => 1
  | .ptr d => uptoBulk d + 1
  | .slice elems spare => uptoBulkAll elems + uptoBulkAll spare + 1
  | .agg parts => uptoBulkAll parts + 1
  | .iface _ d => uptoBulk d + 1
  | .map entries => uptoBulkEntries entries + 1
  | .held _ => 1
def uptoBulkAll {H : Type} : List (DataW H) → Nat
  | [] => 0
  | d :: r => uptoBulk d + uptoBulkAll r
def uptoBulkEntries {H : Type} : List (Lit × DataW H) → Nat
  | [] => 0
  | x :: r => uptoBulkEntry x + uptoBulkEntries r
def uptoBulkEntry {H : Type} : Lit × DataW H → Nat
  | (.string bytes, d) => bytes.length + uptoBulk d + 1
  | (_, d) => uptoBulk d + 1
 end
def uptoSmall : (H : Type) → List (DataW H) → Bool := fun _ ds => decide (uptoBulkAll ds ≤ 1048576)
def OpenSpec.upto (s : _root_.Go.ChangeSpec) : _root_.Go.OpenSpec := { _root_.Go.OpenSpec.ofChange s with cond := some uptoSmall }

/-- 'laws.FnContains', WHERE WHAT IT READS IS OF BULK AT MOST 1048576: true; the input reads as it did. -/
def fnContainsUptoRow : OpenClaim := { program := "ytpmfjbmfjfhghaagreat", sum := "c8b0c7bc0a86f037909f5c3b306c4ccfa2b50b5ba7c1c55b59b507ea6ea4a0ae", func := "opatypes/laws.FnContains", spec := "fnContains", unfollowed := true, recurses := true, loops := true, apart := false, narrowed := true }
def FnContainsUptoSaid : Prop := fnContainsUptoRow.holds Tryz.pinned (OpenSpec.upto fnContainsSpec)

/-- 'laws.FnContainsItself', WHERE WHAT IT READS IS OF BULK AT MOST 1048576: true; the input reads as it did. -/
def fnContainsItselfUptoRow : OpenClaim := { program := "ytpmfjbmfjfhghaagreat", sum := "c8b0c7bc0a86f037909f5c3b306c4ccfa2b50b5ba7c1c55b59b507ea6ea4a0ae", func := "opatypes/laws.FnContainsItself", spec := "fnContainsItself", unfollowed := true, recurses := true, loops := true, apart := false, narrowed := true }
def FnContainsItselfUptoSaid : Prop := fnContainsItselfUptoRow.holds Tryz.pinned (OpenSpec.upto fnContainsItselfSpec)

/-- 'laws.FnNil', WHERE WHAT IT READS IS OF BULK AT MOST 1048576: true; the input reads as it did. -/
def fnNilUptoRow : OpenClaim := { program := "ytpmfjbmfjfhghaagreat", sum := "c8b0c7bc0a86f037909f5c3b306c4ccfa2b50b5ba7c1c55b59b507ea6ea4a0ae", func := "opatypes/laws.FnNil", spec := "fnNil", unfollowed := true, recurses := true, loops := true, apart := false, narrowed := true }
def FnNilUptoSaid : Prop := fnNilUptoRow.holds Tryz.pinned (OpenSpec.upto fnNilSpec)

/-- 'laws.FnNilWithin', WHERE WHAT IT READS IS OF BULK AT MOST 1048576: true; the input reads as it did. -/
def fnNilWithinUptoRow : OpenClaim := { program := "ytpmfjbmfjfhghaagreat", sum := "c8b0c7bc0a86f037909f5c3b306c4ccfa2b50b5ba7c1c55b59b507ea6ea4a0ae", func := "opatypes/laws.FnNilWithin", spec := "fnNilWithin", unfollowed := true, recurses := true, loops := true, apart := false, narrowed := true }
def FnNilWithinUptoSaid : Prop := fnNilWithinUptoRow.holds Tryz.pinned (OpenSpec.upto fnNilWithinSpec)

/-- 'laws.FnNormal', WHERE WHAT IT READS IS OF BULK AT MOST 1048576: true; the input reads as it did. -/
def fnNormalUptoRow : OpenClaim := { program := "ytpmfjbmfjfhghaagreat", sum := "c8b0c7bc0a86f037909f5c3b306c4ccfa2b50b5ba7c1c55b59b507ea6ea4a0ae", func := "opatypes/laws.FnNormal", spec := "fnNormal", unfollowed := true, recurses := true, loops := true, apart := false, narrowed := true }
def FnNormalUptoSaid : Prop := fnNormalUptoRow.holds Tryz.pinned (OpenSpec.upto fnNormalSpec)

/-- 'laws.FnOrdered', WHERE WHAT IT READS IS OF BULK AT MOST 1048576: true; the input reads as it did. -/
def fnOrderedUptoRow : OpenClaim := { program := "ytpmfjbmfjfhghaagreat", sum := "c8b0c7bc0a86f037909f5c3b306c4ccfa2b50b5ba7c1c55b59b507ea6ea4a0ae", func := "opatypes/laws.FnOrdered", spec := "fnOrdered", unfollowed := true, recurses := true, loops := true, apart := false, narrowed := true }
def FnOrderedUptoSaid : Prop := fnOrderedUptoRow.holds Tryz.pinned (OpenSpec.upto fnOrderedSpec)

/-- 'laws.FnVariadic', WHERE WHAT IT READS IS OF BULK AT MOST 1048576: true; the input reads as it did. -/
def fnVariadicUptoRow : OpenClaim := { program := "ytpmfjbmfjfhghaagreat", sum := "c8b0c7bc0a86f037909f5c3b306c4ccfa2b50b5ba7c1c55b59b507ea6ea4a0ae", func := "opatypes/laws.FnVariadic", spec := "fnVariadic", unfollowed := true, recurses := true, loops := true, apart := false, narrowed := true }
def FnVariadicUptoSaid : Prop := fnVariadicUptoRow.holds Tryz.pinned (OpenSpec.upto fnVariadicSpec)

/-- 'laws.FnFunctions', WHERE WHAT IT READS IS OF BULK AT MOST 1048576: true; the input reads as it did. -/
def fnFunctionsUptoRow : OpenClaim := { program := "ytpmfjbmfjfhghaagreat", sum := "c8b0c7bc0a86f037909f5c3b306c4ccfa2b50b5ba7c1c55b59b507ea6ea4a0ae", func := "opatypes/laws.FnFunctions", spec := "fnFunctions", unfollowed := true, recurses := true, loops := true, apart := false, narrowed := true }
def FnFunctionsUptoSaid : Prop := fnFunctionsUptoRow.holds Tryz.pinned (OpenSpec.upto fnFunctionsSpec)

/-- 'laws.FnPrint', WHERE WHAT IT READS IS OF BULK AT MOST 1048576: true; the input reads as it did. -/
def fnPrintUptoRow : OpenClaim := { program := "ytpmfjbmfjfhghaagreat", sum := "c8b0c7bc0a86f037909f5c3b306c4ccfa2b50b5ba7c1c55b59b507ea6ea4a0ae", func := "opatypes/laws.FnPrint", spec := "fnPrint", unfollowed := true, recurses := true, loops := true, apart := false, narrowed := true }
def FnPrintUptoSaid : Prop := fnPrintUptoRow.holds Tryz.pinned (OpenSpec.upto fnPrintSpec)

/-- 'laws.FnSorted', WHERE WHAT IT READS IS OF BULK AT MOST 1048576: true; the input reads as it did. -/
def fnSortedUptoRow : OpenClaim := { program := "ytpmfjbmfjfhghaagreat", sum := "c8b0c7bc0a86f037909f5c3b306c4ccfa2b50b5ba7c1c55b59b507ea6ea4a0ae", func := "opatypes/laws.FnSorted", spec := "fnSorted", unfollowed := true, recurses := true, loops := true, apart := false, narrowed := true }
def FnSortedUptoSaid : Prop := fnSortedUptoRow.holds Tryz.pinned (OpenSpec.upto fnSortedSpec)

/-- 'laws.FnOr', WHERE WHAT IT READS IS OF BULK AT MOST 1048576: true; the input reads as it did. -/
def fnOrUptoRow : OpenClaim := { program := "ytpmfjbmfjfhghaagreat", sum := "c8b0c7bc0a86f037909f5c3b306c4ccfa2b50b5ba7c1c55b59b507ea6ea4a0ae", func := "opatypes/laws.FnOr", spec := "fnOr", unfollowed := true, recurses := true, loops := true, apart := false, narrowed := true }
def FnOrUptoSaid : Prop := fnOrUptoRow.holds Tryz.pinned (OpenSpec.upto fnOrSpec)

/-- 'laws.FnOrItself', WHERE WHAT IT READS IS OF BULK AT MOST 1048576: true; the input reads as it did. -/
def fnOrItselfUptoRow : OpenClaim := { program := "ytpmfjbmfjfhghaagreat", sum := "c8b0c7bc0a86f037909f5c3b306c4ccfa2b50b5ba7c1c55b59b507ea6ea4a0ae", func := "opatypes/laws.FnOrItself", spec := "fnOrItself", unfollowed := true, recurses := true, loops := true, apart := false, narrowed := true }
def FnOrItselfUptoSaid : Prop := fnOrItselfUptoRow.holds Tryz.pinned (OpenSpec.upto fnOrItselfSpec)

/-- 'laws.FnOrContains', WHERE WHAT IT READS IS OF BULK AT MOST 1048576: true; the input reads as it did. -/
def fnOrContainsUptoRow : OpenClaim := { program := "ytpmfjbmfjfhghaagreat", sum := "c8b0c7bc0a86f037909f5c3b306c4ccfa2b50b5ba7c1c55b59b507ea6ea4a0ae", func := "opatypes/laws.FnOrContains", spec := "fnOrContains", unfollowed := true, recurses := true, loops := true, apart := false, narrowed := true }
def FnOrContainsUptoSaid : Prop := fnOrContainsUptoRow.holds Tryz.pinned (OpenSpec.upto fnOrContainsSpec)

/-- 'laws.FnOrSuperset', WHERE WHAT IT READS IS OF BULK AT MOST 1048576: true; the input reads as it did. -/
def fnOrSupersetUptoRow : OpenClaim := { program := "ytpmfjbmfjfhghaagreat", sum := "c8b0c7bc0a86f037909f5c3b306c4ccfa2b50b5ba7c1c55b59b507ea6ea4a0ae", func := "opatypes/laws.FnOrSuperset", spec := "fnOrSuperset", unfollowed := true, recurses := true, loops := true, apart := false, narrowed := true }
def FnOrSupersetUptoSaid : Prop := fnOrSupersetUptoRow.holds Tryz.pinned (OpenSpec.upto fnOrSupersetSpec)

end Rows
end Go.Proofs.YtpmfjbmfjfhghaaGreat
