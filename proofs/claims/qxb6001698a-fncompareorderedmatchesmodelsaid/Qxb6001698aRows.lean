/-
  No cell of these rows narrows 'for every input' (looked for: loops, veiled, ifaces, maps, wideKeys, modest, calm, conditions, laid).
  DERIVED. THE GIVEN ROWS OF THIS SEAT. 6 by the template 'for every input the law returns true; each argument reads behind the call as it read before'; 0 by the template 'total and deterministic' (their statements: Qxb6001698aTotals.lean).
  GIVEN WITH THE SEED: the statements are not yours to turn. If you find one false, say at which input.
  Laid BY PROGRAM, IN A SANDBOX (cutbox-rows.mjs): the forced cells as the released guide's own fill.sh prints them over the translation 4ad2a141c5737de4… (all of the seat's roots in one cut). By AI agents, Wed Nov 11 2026. No macro, syntax, notation, axiom, sorry.
-/
import Derived.Test.Qxb6001698aChecked
import GoSem.Claim
import GoSem.ClaimJoined
import GoSem.ClaimMapViews
import Derived.JoinedTies
import Derived.KernelRfl
namespace Go.Proofs.Qxb6001698a
/- THE CELL 'sum', in the pinned program and in every row, IS THE sha256 OF THE DUMP (.gsa) THAT Qxb6001698aProg.lean LOADS. Nothing in Lean hashes anything: it is a label: what it is worth is what the hold of that sum in a sandbox is worth. -/
noncomputable def Try.pinned : Pinned := { name := "qxb6001698a", sum := "4ad2a141c5737de47009fb932c91cf6f8f5fd3f7569b1cdb41c7e0ce40adf4c0", checked := Try.checked }
namespace Rows
def none {H : Type} : Left H := { results := [], args := [] }

/-- 'zzlaws_local_g2.FnSequenceNumbersOrderAsIntegers': WHATEVER THE INPUT: true; the input reads as it did. -/
def fnSequenceNumbersOrderAsIntegersSpec : ChangeSpec := { name := "fnSequenceNumbersOrderAsIntegers", fn := fun _ => fun
  | [d1, d2] => { results := [.lit (.bool true)], args := [d1, d2] }
  | _ => none }
def fnSequenceNumbersOrderAsIntegersRow : OpenClaim := { program := "qxb6001698a", sum := "4ad2a141c5737de47009fb932c91cf6f8f5fd3f7569b1cdb41c7e0ce40adf4c0", func := "example.com/shardkeeper/shardkeeper/zzlaws_local_g2.FnSequenceNumbersOrderAsIntegers", spec := "fnSequenceNumbersOrderAsIntegers", apart := false }
def FnSequenceNumbersOrderAsIntegersSaid : Prop := fnSequenceNumbersOrderAsIntegersRow.holds Try.pinned (OpenSpec.ofChange fnSequenceNumbersOrderAsIntegersSpec)

/-- ITS FALSE NEIGHBOUR: 'it returns false'. Refute it at one input. -/
def fnSequenceNumbersOrderAsIntegersWrong : ChangeSpec := { name := "fnSequenceNumbersOrderAsIntegers", fn := fun _ => fun
  | [d1, d2] => { results := [.lit (.bool false)], args := [d1, d2] }
  | _ => none }
def FnSequenceNumbersOrderAsIntegersWrongFalsely : Prop := fnSequenceNumbersOrderAsIntegersRow.holds Try.pinned (OpenSpec.ofChange fnSequenceNumbersOrderAsIntegersWrong)

/-- 'zzlaws_local_g2.FnSequenceNumbersTotalOrder': WHATEVER THE INPUT: true; the input reads as it did. -/
def fnSequenceNumbersTotalOrderSpec : ChangeSpec := { name := "fnSequenceNumbersTotalOrder", fn := fun _ => fun
  | [d1, d2, d3] => { results := [.lit (.bool true)], args := [d1, d2, d3] }
  | _ => none }
def fnSequenceNumbersTotalOrderRow : OpenClaim := { program := "qxb6001698a", sum := "4ad2a141c5737de47009fb932c91cf6f8f5fd3f7569b1cdb41c7e0ce40adf4c0", func := "example.com/shardkeeper/shardkeeper/zzlaws_local_g2.FnSequenceNumbersTotalOrder", spec := "fnSequenceNumbersTotalOrder", apart := false }
def FnSequenceNumbersTotalOrderSaid : Prop := fnSequenceNumbersTotalOrderRow.holds Try.pinned (OpenSpec.ofChange fnSequenceNumbersTotalOrderSpec)

/-- ITS FALSE NEIGHBOUR: 'it returns false'. Refute it at one input. -/
def fnSequenceNumbersTotalOrderWrong : ChangeSpec := { name := "fnSequenceNumbersTotalOrder", fn := fun _ => fun
  | [d1, d2, d3] => { results := [.lit (.bool false)], args := [d1, d2, d3] }
  | _ => none }
def FnSequenceNumbersTotalOrderWrongFalsely : Prop := fnSequenceNumbersTotalOrderRow.holds Try.pinned (OpenSpec.ofChange fnSequenceNumbersTotalOrderWrong)

/-- 'zzlaws_local_g2.FnCompareOrderedMatchesModel': WHATEVER THE INPUT: true; the input reads as it did. -/
def fnCompareOrderedMatchesModelSpec : ChangeSpec := { name := "fnCompareOrderedMatchesModel", fn := fun _ => fun
  | [d1, d2, d3, d4, d5, d6, d7, d8, d9, d10] => { results := [.lit (.bool true)], args := [d1, d2, d3, d4, d5, d6, d7, d8, d9, d10] }
  | _ => none }
def fnCompareOrderedMatchesModelRow : OpenClaim := { program := "qxb6001698a", sum := "4ad2a141c5737de47009fb932c91cf6f8f5fd3f7569b1cdb41c7e0ce40adf4c0", func := "example.com/shardkeeper/shardkeeper/zzlaws_local_g2.FnCompareOrderedMatchesModel", spec := "fnCompareOrderedMatchesModel", inPlace := ["internal/bytealg.abigen_runtime_cmpstring"], apart := false }
def FnCompareOrderedMatchesModelSaid : Prop := fnCompareOrderedMatchesModelRow.holds Try.pinned (OpenSpec.ofChange fnCompareOrderedMatchesModelSpec)

/-- ITS FALSE NEIGHBOUR: 'it returns false'. Refute it at one input. -/
def fnCompareOrderedMatchesModelWrong : ChangeSpec := { name := "fnCompareOrderedMatchesModel", fn := fun _ => fun
  | [d1, d2, d3, d4, d5, d6, d7, d8, d9, d10] => { results := [.lit (.bool false)], args := [d1, d2, d3, d4, d5, d6, d7, d8, d9, d10] }
  | _ => none }
def FnCompareOrderedMatchesModelWrongFalsely : Prop := fnCompareOrderedMatchesModelRow.holds Try.pinned (OpenSpec.ofChange fnCompareOrderedMatchesModelWrong)

/-- 'zzlaws_local_g2.FnPathContainsSortsFirst': WHATEVER THE INPUT: true; the input reads as it did. -/
def fnPathContainsSortsFirstSpec : ChangeSpec := { name := "fnPathContainsSortsFirst", fn := fun _ => fun
  | [d1, d2, d3, d4, d5, d6] => { results := [.lit (.bool true)], args := [d1, d2, d3, d4, d5, d6] }
  | _ => none }
def fnPathContainsSortsFirstRow : OpenClaim := { program := "qxb6001698a", sum := "4ad2a141c5737de47009fb932c91cf6f8f5fd3f7569b1cdb41c7e0ce40adf4c0", func := "example.com/shardkeeper/shardkeeper/zzlaws_local_g2.FnPathContainsSortsFirst", spec := "fnPathContainsSortsFirst", apart := false }
def FnPathContainsSortsFirstSaid : Prop := fnPathContainsSortsFirstRow.holds Try.pinned (OpenSpec.ofChange fnPathContainsSortsFirstSpec)

/-- ITS FALSE NEIGHBOUR: 'it returns false'. Refute it at one input. -/
def fnPathContainsSortsFirstWrong : ChangeSpec := { name := "fnPathContainsSortsFirst", fn := fun _ => fun
  | [d1, d2, d3, d4, d5, d6] => { results := [.lit (.bool false)], args := [d1, d2, d3, d4, d5, d6] }
  | _ => none }
def FnPathContainsSortsFirstWrongFalsely : Prop := fnPathContainsSortsFirstRow.holds Try.pinned (OpenSpec.ofChange fnPathContainsSortsFirstWrong)

/-- 'zzlaws_local_g2.FnComparePathsTotalPreorder': WHATEVER THE INPUT: true; the input reads as it did. -/
def fnComparePathsTotalPreorderSpec : ChangeSpec := { name := "fnComparePathsTotalPreorder", fn := fun _ => fun
  | [d1, d2, d3, d4, d5, d6, d7, d8, d9] => { results := [.lit (.bool true)], args := [d1, d2, d3, d4, d5, d6, d7, d8, d9] }
  | _ => none }
def fnComparePathsTotalPreorderRow : OpenClaim := { program := "qxb6001698a", sum := "4ad2a141c5737de47009fb932c91cf6f8f5fd3f7569b1cdb41c7e0ce40adf4c0", func := "example.com/shardkeeper/shardkeeper/zzlaws_local_g2.FnComparePathsTotalPreorder", spec := "fnComparePathsTotalPreorder", apart := false }
def FnComparePathsTotalPreorderSaid : Prop := fnComparePathsTotalPreorderRow.holds Try.pinned (OpenSpec.ofChange fnComparePathsTotalPreorderSpec)

/-- ITS FALSE NEIGHBOUR: 'it returns false'. Refute it at one input. -/
def fnComparePathsTotalPreorderWrong : ChangeSpec := { name := "fnComparePathsTotalPreorder", fn := fun _ => fun
  | [d1, d2, d3, d4, d5, d6, d7, d8, d9] => { results := [.lit (.bool false)], args := [d1, d2, d3, d4, d5, d6, d7, d8, d9] }
  | _ => none }
def FnComparePathsTotalPreorderWrongFalsely : Prop := fnComparePathsTotalPreorderRow.holds Try.pinned (OpenSpec.ofChange fnComparePathsTotalPreorderWrong)

/-- 'zzlaws_local_g2.FnRefillSplitsAdditively': WHATEVER THE INPUT: true; the input reads as it did. -/
def fnRefillSplitsAdditivelySpec : ChangeSpec := { name := "fnRefillSplitsAdditively", fn := fun _ => fun
  | [d1, d2, d3, d4] => { results := [.lit (.bool true)], args := [d1, d2, d3, d4] }
  | _ => none }
def fnRefillSplitsAdditivelyRow : OpenClaim := { program := "qxb6001698a", sum := "4ad2a141c5737de47009fb932c91cf6f8f5fd3f7569b1cdb41c7e0ce40adf4c0", func := "example.com/shardkeeper/shardkeeper/zzlaws_local_g2.FnRefillSplitsAdditively", spec := "fnRefillSplitsAdditively", apart := false }
def FnRefillSplitsAdditivelySaid : Prop := fnRefillSplitsAdditivelyRow.holds Try.pinned (OpenSpec.ofChange fnRefillSplitsAdditivelySpec)

/-- ITS FALSE NEIGHBOUR: 'it returns false'. Refute it at one input. -/
def fnRefillSplitsAdditivelyWrong : ChangeSpec := { name := "fnRefillSplitsAdditively", fn := fun _ => fun
  | [d1, d2, d3, d4] => { results := [.lit (.bool false)], args := [d1, d2, d3, d4] }
  | _ => none }
def FnRefillSplitsAdditivelyWrongFalsely : Prop := fnRefillSplitsAdditivelyRow.holds Try.pinned (OpenSpec.ofChange fnRefillSplitsAdditivelyWrong)

end Rows
end Go.Proofs.Qxb6001698a
