/-
  No cell of these rows narrows 'for every input' (looked for: loops, veiled, ifaces, maps, wideKeys, modest, calm, conditions, laid).
  DERIVED. THE GIVEN ROWS OF THIS SEAT. 1 by the template 'for every input the law returns true; each argument reads behind the call as it read before'; 0 by the template 'total and deterministic' (their statements: Qxb6615790aFmtTotals.lean).
  GIVEN WITH THE SEED: the statements are not yours to turn. If you find one false, say at which input.
  Laid BY PROGRAM, IN A SANDBOX (cutbox-rows.mjs): the forced cells as the released guide's own fill.sh prints them over the translation 020713e319a1cc7b… (all of the seat's roots in one cut). By AI agents, Wed Nov 11 2026. No macro, syntax, notation, axiom, sorry.
-/
import Derived.Test.Qxb6615790aFmtChecked
import GoSem.Claim
import GoSem.ClaimJoined
import GoSem.ClaimMapViews
import Derived.JoinedTies
import Derived.KernelRfl
namespace Go.Proofs.Qxb6615790aFmt
/- THE CELL 'sum', in the pinned program and in every row, IS THE sha256 OF THE DUMP (.gsa) THAT Qxb6615790aFmtProg.lean LOADS. Nothing in Lean hashes anything: it is a label: what it is worth is what the hold of that sum in a sandbox is worth. -/
noncomputable def Tryf.pinned : Pinned := { name := "qxb6615790afmt", sum := "020713e319a1cc7b1fadbf3fa630231286614465f4790f62ad016a2b1b78c3cd", checked := Tryf.checked }
namespace Rows
def none {H : Type} : Left H := { results := [], args := [] }

/-- 'zzlaws_internal_jsonl_b1.FnObjectStringSeesAddedField': WHATEVER THE INPUT: true; the input reads as it did. -/
def fnObjectStringSeesAddedFieldSpec : ChangeSpec := { name := "fnObjectStringSeesAddedField", fn := fun _ => fun
  | [d1, d2, d3, d4, d5, d6, d7, d8] => { results := [.lit (.bool true)], args := [d1, d2, d3, d4, d5, d6, d7, d8] }
  | _ => none }
def fnObjectStringSeesAddedFieldRow : OpenClaim := { program := "qxb6615790afmt", sum := "020713e319a1cc7b1fadbf3fa630231286614465f4790f62ad016a2b1b78c3cd", func := "example.com/tidemark/tidemark/zzlaws_internal_jsonl_b1.FnObjectStringSeesAddedField", spec := "fnObjectStringSeesAddedField", stops := ["fmt.errorf"], inPlace := ["fmt.errorf"], apart := false }
/-- NO THEOREM (fmt's text is open here; it may be false): for the released tool's asking of the row's closed facts alone. THE STATEMENT IS 'FnObjectStringSeesAddedFieldToldSaid' (Qxb6615790aFmtCards.lean). -/
def FnObjectStringSeesAddedFieldFormAsk : Prop := fnObjectStringSeesAddedFieldRow.holds Tryf.pinned (OpenSpec.ofChange fnObjectStringSeesAddedFieldSpec)

/-- ITS FALSE NEIGHBOUR: 'it returns false'. Refute it at one input. -/
def fnObjectStringSeesAddedFieldWrong : ChangeSpec := { name := "fnObjectStringSeesAddedField", fn := fun _ => fun
  | [d1, d2, d3, d4, d5, d6, d7, d8] => { results := [.lit (.bool false)], args := [d1, d2, d3, d4, d5, d6, d7, d8] }
  | _ => none }
def FnObjectStringSeesAddedFieldWrongFormAsk : Prop := fnObjectStringSeesAddedFieldRow.holds Tryf.pinned (OpenSpec.ofChange fnObjectStringSeesAddedFieldWrong)

end Rows
end Go.Proofs.Qxb6615790aFmt
