/-
  No cell of these rows narrows 'for every input' (looked for: loops, veiled, ifaces, maps, wideKeys, modest, calm, conditions, laid).
  DERIVED. THE GIVEN ROWS OF THIS SEAT. 2 by the template 'for every input the law returns true; each argument reads behind the call as it read before'; 0 by the template 'total and deterministic' (their statements: Qxb6615958aFmtTotals.lean).
  GIVEN WITH THE SEED: the statements are not yours to turn. If you find one false, say at which input.
  Laid BY PROGRAM, IN A SANDBOX (cutbox-rows.mjs): the forced cells as the released guide's own fill.sh prints them over the translation 9dcb7318a29d6bbc… (all of the seat's roots in one cut). By AI agents, Wed Nov 11 2026. No macro, syntax, notation, axiom, sorry.
-/
import Derived.Test.Qxb6615958aFmtChecked
import GoSem.Claim
import GoSem.ClaimJoined
import GoSem.ClaimMapViews
import Derived.JoinedTies
import Derived.KernelRfl
namespace Go.Proofs.Qxb6615958aFmt
/- THE CELL 'sum', in the pinned program and in every row, IS THE sha256 OF THE DUMP (.gsa) THAT Qxb6615958aFmtProg.lean LOADS. Nothing in Lean hashes anything: it is a label: what it is worth is what the hold of that sum in a sandbox is worth. -/
noncomputable def Tryf.pinned : Pinned := { name := "qxb6615958afmt", sum := "9dcb7318a29d6bbc1efed68dc24873c5f3dda469c27231c948a852a901f29b38", checked := Tryf.checked }
namespace Rows
def none {H : Type} : Left H := { results := [], args := [] }

/-- 'zzlaws_signature_b1.FnCheckCriticalFirstMatchDecides': WHATEVER THE INPUT: true; the input reads as it did. -/
def fnCheckCriticalFirstMatchDecidesSpec : ChangeSpec := { name := "fnCheckCriticalFirstMatchDecides", fn := fun _ => fun
  | [d1, d2, d3, d4, d5, d6] => { results := [.lit (.bool true)], args := [d1, d2, d3, d4, d5, d6] }
  | _ => none }
def fnCheckCriticalFirstMatchDecidesRow : OpenClaim := { program := "qxb6615958afmt", sum := "9dcb7318a29d6bbc1efed68dc24873c5f3dda469c27231c948a852a901f29b38", func := "example.com/countersign/countersign/zzlaws_signature_b1.FnCheckCriticalFirstMatchDecides", spec := "fnCheckCriticalFirstMatchDecides", stops := ["fmt.errorf"], inPlace := ["fmt.errorf"], unfollowed := true, recurses := true, apart := false }
/-- NO THEOREM (fmt's text is open here; it may be false): for the released tool's asking of the row's closed facts alone. THE STATEMENT IS 'FnCheckCriticalFirstMatchDecidesToldSaid' (Qxb6615958aFmtCards.lean). -/
def FnCheckCriticalFirstMatchDecidesFormAsk : Prop := fnCheckCriticalFirstMatchDecidesRow.holds Tryf.pinned (OpenSpec.ofChange fnCheckCriticalFirstMatchDecidesSpec)

/-- ITS FALSE NEIGHBOUR: 'it returns false'. Refute it at one input. -/
def fnCheckCriticalFirstMatchDecidesWrong : ChangeSpec := { name := "fnCheckCriticalFirstMatchDecides", fn := fun _ => fun
  | [d1, d2, d3, d4, d5, d6] => { results := [.lit (.bool false)], args := [d1, d2, d3, d4, d5, d6] }
  | _ => none }
def FnCheckCriticalFirstMatchDecidesWrongFormAsk : Prop := fnCheckCriticalFirstMatchDecidesRow.holds Tryf.pinned (OpenSpec.ofChange fnCheckCriticalFirstMatchDecidesWrong)

/-- 'zzlaws_signature_b1.FnCheckCriticalFlipSisters': WHATEVER THE INPUT: true; the input reads as it did. -/
def fnCheckCriticalFlipSistersSpec : ChangeSpec := { name := "fnCheckCriticalFlipSisters", fn := fun _ => fun
  | [d1, d2, d3, d4] => { results := [.lit (.bool true)], args := [d1, d2, d3, d4] }
  | _ => none }
def fnCheckCriticalFlipSistersRow : OpenClaim := { program := "qxb6615958afmt", sum := "9dcb7318a29d6bbc1efed68dc24873c5f3dda469c27231c948a852a901f29b38", func := "example.com/countersign/countersign/zzlaws_signature_b1.FnCheckCriticalFlipSisters", spec := "fnCheckCriticalFlipSisters", stops := ["fmt.errorf"], inPlace := ["fmt.errorf"], unfollowed := true, recurses := true, apart := false }
/-- NO THEOREM (fmt's text is open here; it may be false): for the released tool's asking of the row's closed facts alone. THE STATEMENT IS 'FnCheckCriticalFlipSistersToldSaid' (Qxb6615958aFmtCards.lean). -/
def FnCheckCriticalFlipSistersFormAsk : Prop := fnCheckCriticalFlipSistersRow.holds Tryf.pinned (OpenSpec.ofChange fnCheckCriticalFlipSistersSpec)

/-- ITS FALSE NEIGHBOUR: 'it returns false'. Refute it at one input. -/
def fnCheckCriticalFlipSistersWrong : ChangeSpec := { name := "fnCheckCriticalFlipSisters", fn := fun _ => fun
  | [d1, d2, d3, d4] => { results := [.lit (.bool false)], args := [d1, d2, d3, d4] }
  | _ => none }
def FnCheckCriticalFlipSistersWrongFormAsk : Prop := fnCheckCriticalFlipSistersRow.holds Tryf.pinned (OpenSpec.ofChange fnCheckCriticalFlipSistersWrong)

end Rows
end Go.Proofs.Qxb6615958aFmt
