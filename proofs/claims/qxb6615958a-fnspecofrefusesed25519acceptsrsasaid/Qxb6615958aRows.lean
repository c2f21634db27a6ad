/-
  No cell of these rows narrows 'for every input' (looked for: loops, veiled, ifaces, maps, wideKeys, modest, calm, conditions, laid).
  DERIVED. THE GIVEN ROWS OF THIS SEAT. 2 by the template 'for every input the law returns true; each argument reads behind the call as it read before'; 0 by the template 'total and deterministic' (their statements: Qxb6615958aTotals.lean).
  GIVEN WITH THE SEED: the statements are not yours to turn. If you find one false, say at which input.
  Laid BY PROGRAM, IN A SANDBOX (cutbox-rows.mjs): the forced cells as the released guide's own fill.sh prints them over the translation 56ce48c46e6bd22d… (all of the seat's roots in one cut). By AI agents, Wed Nov 11 2026. No macro, syntax, notation, axiom, sorry.
-/
import Derived.Test.Qxb6615958aChecked
import GoSem.Claim
import GoSem.ClaimJoined
import GoSem.ClaimMapViews
import Derived.JoinedTies
import Derived.KernelRfl
namespace Go.Proofs.Qxb6615958a
/- THE CELL 'sum', in the pinned program and in every row, IS THE sha256 OF THE DUMP (.gsa) THAT Qxb6615958aProg.lean LOADS. Nothing in Lean hashes anything: it is a label: what it is worth is what the hold of that sum in a sandbox is worth. -/
noncomputable def Try.pinned : Pinned := { name := "qxb6615958a", sum := "56ce48c46e6bd22df1f470b62bab6ad0d1de70772f6db1bb5181665b154fa074", checked := Try.checked }
namespace Rows
def none {H : Type} : Left H := { results := [], args := [] }

/-- 'zzlaws_signature_b1.FnSpecOfRSAIsModulusBitLength': WHATEVER THE INPUT: true; the input reads as it did. -/
def fnSpecOfRSAIsModulusBitLengthSpec : ChangeSpec := { name := "fnSpecOfRSAIsModulusBitLength", fn := fun _ => fun
  | [d] => { results := [.lit (.bool true)], args := [d] }
  | _ => none }
def fnSpecOfRSAIsModulusBitLengthRow : OpenClaim := { program := "qxb6615958a", sum := "56ce48c46e6bd22df1f470b62bab6ad0d1de70772f6db1bb5181665b154fa074", func := "example.com/countersign/countersign/zzlaws_signature_b1.FnSpecOfRSAIsModulusBitLength", spec := "fnSpecOfRSAIsModulusBitLength", apart := false }
def FnSpecOfRSAIsModulusBitLengthSaid : Prop := fnSpecOfRSAIsModulusBitLengthRow.holds Try.pinned (OpenSpec.ofChange fnSpecOfRSAIsModulusBitLengthSpec)

/-- ITS FALSE NEIGHBOUR: 'it returns false'. Refute it at one input. -/
def fnSpecOfRSAIsModulusBitLengthWrong : ChangeSpec := { name := "fnSpecOfRSAIsModulusBitLength", fn := fun _ => fun
  | [d] => { results := [.lit (.bool false)], args := [d] }
  | _ => none }
def FnSpecOfRSAIsModulusBitLengthWrongFalsely : Prop := fnSpecOfRSAIsModulusBitLengthRow.holds Try.pinned (OpenSpec.ofChange fnSpecOfRSAIsModulusBitLengthWrong)

/-- 'zzlaws_signature_b1.FnSpecOfRefusesEd25519AcceptsRSA': WHATEVER THE INPUT: true; the input reads as it did. -/
def fnSpecOfRefusesEd25519AcceptsRSASpec : ChangeSpec := { name := "fnSpecOfRefusesEd25519AcceptsRSA", fn := fun _ => fun
  | [d] => { results := [.lit (.bool true)], args := [d] }
  | _ => none }
def fnSpecOfRefusesEd25519AcceptsRSARow : OpenClaim := { program := "qxb6615958a", sum := "56ce48c46e6bd22df1f470b62bab6ad0d1de70772f6db1bb5181665b154fa074", func := "example.com/countersign/countersign/zzlaws_signature_b1.FnSpecOfRefusesEd25519AcceptsRSA", spec := "fnSpecOfRefusesEd25519AcceptsRSA", apart := false }
def FnSpecOfRefusesEd25519AcceptsRSASaid : Prop := fnSpecOfRefusesEd25519AcceptsRSARow.holds Try.pinned (OpenSpec.ofChange fnSpecOfRefusesEd25519AcceptsRSASpec)

/-- ITS FALSE NEIGHBOUR: 'it returns false'. Refute it at one input. -/
def fnSpecOfRefusesEd25519AcceptsRSAWrong : ChangeSpec := { name := "fnSpecOfRefusesEd25519AcceptsRSA", fn := fun _ => fun
  | [d] => { results := [.lit (.bool false)], args := [d] }
  | _ => none }
def FnSpecOfRefusesEd25519AcceptsRSAWrongFalsely : Prop := fnSpecOfRefusesEd25519AcceptsRSARow.holds Try.pinned (OpenSpec.ofChange fnSpecOfRefusesEd25519AcceptsRSAWrong)

end Rows
end Go.Proofs.Qxb6615958a
