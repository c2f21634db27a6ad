/-
  No cell of these rows narrows 'for every input' (looked for: loops, veiled, ifaces, maps, wideKeys, modest, calm, conditions, laid).
  DERIVED. THE GIVEN ROWS OF THIS SEAT. 3 by the template 'for every input the law returns true; each argument reads behind the call as it read before'; 0 by the template 'total and deterministic' (their statements: Qxb6616081aTotals.lean).
  GIVEN WITH THE SEED: the statements are not yours to turn. If you find one false, say at which input.
  Laid BY PROGRAM, IN A SANDBOX (cutbox-rows.mjs): the forced cells as the released guide's own fill.sh prints them over the translation 44db8593ec2f675f… (all of the seat's roots in one cut). By AI agents, Wed Nov 11 2026. No macro, syntax, notation, axiom, sorry.
-/
import Derived.Test.Qxb6616081aChecked
import GoSem.Claim
import GoSem.ClaimJoined
import GoSem.ClaimMapViews
import Derived.JoinedTies
import Derived.KernelRfl
namespace Go.Proofs.Qxb6616081a
/- THE CELL 'sum', in the pinned program and in every row, IS THE sha256 OF THE DUMP (.gsa) THAT Qxb6616081aProg.lean LOADS. Nothing in Lean hashes anything: it is a label: what it is worth is what the hold of that sum in a sandbox is worth. -/
noncomputable def Try.pinned : Pinned := { name := "qxb6616081a", sum := "44db8593ec2f675f0ad98f468689ca6f3aced506407c4ff0f2b02d9b345a738a", checked := Try.checked }
namespace Rows
def none {H : Type} : Left H := { results := [], args := [] }

/-- 'zzlaws_root_b1.FnHoldsNameExtendedByOneMoreComponent': WHATEVER THE INPUT: true; the input reads as it did. -/
def fnHoldsNameExtendedByOneMoreComponentSpec : ChangeSpec := { name := "fnHoldsNameExtendedByOneMoreComponent", fn := fun _ => fun
  | [d1, d2, d3] => { results := [.lit (.bool true)], args := [d1, d2, d3] }
  | _ => none }
def fnHoldsNameExtendedByOneMoreComponentRow : OpenClaim := { program := "qxb6616081a", sum := "44db8593ec2f675f0ad98f468689ca6f3aced506407c4ff0f2b02d9b345a738a", func := "example.com/lens-on-policy/lens-on-policy/zzlaws_root_b1.FnHoldsNameExtendedByOneMoreComponent", spec := "fnHoldsNameExtendedByOneMoreComponent", apart := false }
def FnHoldsNameExtendedByOneMoreComponentSaid : Prop := fnHoldsNameExtendedByOneMoreComponentRow.holds Try.pinned (OpenSpec.ofChange fnHoldsNameExtendedByOneMoreComponentSpec)

/-- ITS FALSE NEIGHBOUR: 'it returns false'. Refute it at one input. -/
def fnHoldsNameExtendedByOneMoreComponentWrong : ChangeSpec := { name := "fnHoldsNameExtendedByOneMoreComponent", fn := fun _ => fun
  | [d1, d2, d3] => { results := [.lit (.bool false)], args := [d1, d2, d3] }
  | _ => none }
def FnHoldsNameExtendedByOneMoreComponentWrongFalsely : Prop := fnHoldsNameExtendedByOneMoreComponentRow.holds Try.pinned (OpenSpec.ofChange fnHoldsNameExtendedByOneMoreComponentWrong)

/-- 'zzlaws_root_b1.FnHoldsIsTheTreeOrderOfDottedNames': WHATEVER THE INPUT: true; the input reads as it did. -/
def fnHoldsIsTheTreeOrderOfDottedNamesSpec : ChangeSpec := { name := "fnHoldsIsTheTreeOrderOfDottedNames", fn := fun _ => fun
  | [d1, d2, d3] => { results := [.lit (.bool true)], args := [d1, d2, d3] }
  | _ => none }
def fnHoldsIsTheTreeOrderOfDottedNamesRow : OpenClaim := { program := "qxb6616081a", sum := "44db8593ec2f675f0ad98f468689ca6f3aced506407c4ff0f2b02d9b345a738a", func := "example.com/lens-on-policy/lens-on-policy/zzlaws_root_b1.FnHoldsIsTheTreeOrderOfDottedNames", spec := "fnHoldsIsTheTreeOrderOfDottedNames", apart := false }
def FnHoldsIsTheTreeOrderOfDottedNamesSaid : Prop := fnHoldsIsTheTreeOrderOfDottedNamesRow.holds Try.pinned (OpenSpec.ofChange fnHoldsIsTheTreeOrderOfDottedNamesSpec)

/-- ITS FALSE NEIGHBOUR: 'it returns false'. Refute it at one input. -/
def fnHoldsIsTheTreeOrderOfDottedNamesWrong : ChangeSpec := { name := "fnHoldsIsTheTreeOrderOfDottedNames", fn := fun _ => fun
  | [d1, d2, d3] => { results := [.lit (.bool false)], args := [d1, d2, d3] }
  | _ => none }
def FnHoldsIsTheTreeOrderOfDottedNamesWrongFalsely : Prop := fnHoldsIsTheTreeOrderOfDottedNamesRow.holds Try.pinned (OpenSpec.ofChange fnHoldsIsTheTreeOrderOfDottedNamesWrong)

/-- 'zzlaws_root_b1.FnKeysMatchOneKeyAtATime': WHATEVER THE INPUT: true; the input reads as it did. -/
def fnKeysMatchOneKeyAtATimeSpec : ChangeSpec := { name := "fnKeysMatchOneKeyAtATime", fn := fun _ => fun
  | [d1, d2, d3, d4, d5, d6] => { results := [.lit (.bool true)], args := [d1, d2, d3, d4, d5, d6] }
  | _ => none }
def fnKeysMatchOneKeyAtATimeRow : OpenClaim := { program := "qxb6616081a", sum := "44db8593ec2f675f0ad98f468689ca6f3aced506407c4ff0f2b02d9b345a738a", func := "example.com/lens-on-policy/lens-on-policy/zzlaws_root_b1.FnKeysMatchOneKeyAtATime", spec := "fnKeysMatchOneKeyAtATime", apart := false }
def FnKeysMatchOneKeyAtATimeSaid : Prop := fnKeysMatchOneKeyAtATimeRow.holds Try.pinned (OpenSpec.ofChange fnKeysMatchOneKeyAtATimeSpec)

/-- ITS FALSE NEIGHBOUR: 'it returns false'. Refute it at one input. -/
def fnKeysMatchOneKeyAtATimeWrong : ChangeSpec := { name := "fnKeysMatchOneKeyAtATime", fn := fun _ => fun
  | [d1, d2, d3, d4, d5, d6] => { results := [.lit (.bool false)], args := [d1, d2, d3, d4, d5, d6] }
  | _ => none }
def FnKeysMatchOneKeyAtATimeWrongFalsely : Prop := fnKeysMatchOneKeyAtATimeRow.holds Try.pinned (OpenSpec.ofChange fnKeysMatchOneKeyAtATimeWrong)

end Rows
end Go.Proofs.Qxb6616081a
