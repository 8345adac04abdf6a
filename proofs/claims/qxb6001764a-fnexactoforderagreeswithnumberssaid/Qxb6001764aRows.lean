/-
  No cell of these rows narrows 'for every input' (looked for: loops, veiled, ifaces, maps, wideKeys, modest, calm, conditions, laid).
  DERIVED. THE GIVEN ROWS OF THIS SEAT. 2 by the template 'for every input the law returns true; each argument reads behind the call as it read before'; 0 by the template 'total and deterministic' (their statements: Qxb6001764aTotals.lean).
  GIVEN WITH THE SEED: the statements are not yours to turn. If you find one false, say at which input.
  Laid BY PROGRAM, IN A SANDBOX (cutbox-rows.mjs): the forced cells as the released guide's own fill.sh prints them over the translation 7142a3c1ad4b5413… (all of the seat's roots in one cut). By AI agents, Wed Nov 11 2026. No macro, syntax, notation, axiom, sorry.
-/
import Derived.Test.Qxb6001764aChecked
import GoSem.Claim
import GoSem.ClaimJoined
import GoSem.ClaimMapViews
import Derived.JoinedTies
import Derived.KernelRfl
namespace Go.Proofs.Qxb6001764a
/- THE CELL 'sum', in the pinned program and in every row, IS THE sha256 OF THE DUMP (.gsa) THAT Qxb6001764aProg.lean LOADS. Nothing in Lean hashes anything: it is a label: what it is worth is what the hold of that sum in a sandbox is worth. -/
noncomputable def Try.pinned : Pinned := { name := "qxb6001764a", sum := "7142a3c1ad4b5413d6b7b46b8474e506251de3cfa9f128d20fb8fd5a5442cbb2", checked := Try.checked }
namespace Rows
def none {H : Type} : Left H := { results := [], args := [] }

/-- 'zzlaws_engine_b1.FnExactOfOrderAgreesWithNumbers': WHATEVER THE INPUT: true; the input reads as it did. -/
def fnExactOfOrderAgreesWithNumbersSpec : ChangeSpec := { name := "fnExactOfOrderAgreesWithNumbers", fn := fun _ => fun
  | [d1, d2, d3, d4] => { results := [.lit (.bool true)], args := [d1, d2, d3, d4] }
  | _ => none }
def fnExactOfOrderAgreesWithNumbersRow : OpenClaim := { program := "qxb6001764a", sum := "7142a3c1ad4b5413d6b7b46b8474e506251de3cfa9f128d20fb8fd5a5442cbb2", func := "example.com/gapwise/gapwise/zzlaws_engine_b1.FnExactOfOrderAgreesWithNumbers", spec := "fnExactOfOrderAgreesWithNumbers", apart := false }
def FnExactOfOrderAgreesWithNumbersSaid : Prop := fnExactOfOrderAgreesWithNumbersRow.holds Try.pinned (OpenSpec.ofChange fnExactOfOrderAgreesWithNumbersSpec)

/-- ITS FALSE NEIGHBOUR: 'it returns false'. Refute it at one input. -/
def fnExactOfOrderAgreesWithNumbersWrong : ChangeSpec := { name := "fnExactOfOrderAgreesWithNumbers", fn := fun _ => fun
  | [d1, d2, d3, d4] => { results := [.lit (.bool false)], args := [d1, d2, d3, d4] }
  | _ => none }
def FnExactOfOrderAgreesWithNumbersWrongFalsely : Prop := fnExactOfOrderAgreesWithNumbersRow.holds Try.pinned (OpenSpec.ofChange fnExactOfOrderAgreesWithNumbersWrong)

/-- 'zzlaws_engine_b1.FnKeyDefsSecondaryKeysOwnTheirParts': WHATEVER THE INPUT: true; the input reads as it did. -/
def fnKeyDefsSecondaryKeysOwnTheirPartsSpec : ChangeSpec := { name := "fnKeyDefsSecondaryKeysOwnTheirParts", fn := fun _ => fun
  | [d1, d2] => { results := [.lit (.bool true)], args := [d1, d2] }
  | _ => none }
def fnKeyDefsSecondaryKeysOwnTheirPartsRow : OpenClaim := { program := "qxb6001764a", sum := "7142a3c1ad4b5413d6b7b46b8474e506251de3cfa9f128d20fb8fd5a5442cbb2", func := "example.com/gapwise/gapwise/zzlaws_engine_b1.FnKeyDefsSecondaryKeysOwnTheirParts", spec := "fnKeyDefsSecondaryKeysOwnTheirParts", apart := false }
def FnKeyDefsSecondaryKeysOwnTheirPartsSaid : Prop := fnKeyDefsSecondaryKeysOwnTheirPartsRow.holds Try.pinned (OpenSpec.ofChange fnKeyDefsSecondaryKeysOwnTheirPartsSpec)

/-- ITS FALSE NEIGHBOUR: 'it returns false'. Refute it at one input. -/
def fnKeyDefsSecondaryKeysOwnTheirPartsWrong : ChangeSpec := { name := "fnKeyDefsSecondaryKeysOwnTheirParts", fn := fun _ => fun
  | [d1, d2] => { results := [.lit (.bool false)], args := [d1, d2] }
  | _ => none }
def FnKeyDefsSecondaryKeysOwnTheirPartsWrongFalsely : Prop := fnKeyDefsSecondaryKeysOwnTheirPartsRow.holds Try.pinned (OpenSpec.ofChange fnKeyDefsSecondaryKeysOwnTheirPartsWrong)

end Rows
end Go.Proofs.Qxb6001764a
