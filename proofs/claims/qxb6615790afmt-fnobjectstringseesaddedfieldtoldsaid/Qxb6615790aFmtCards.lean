/-
  DERIVED. GIVEN WITH THE SEED: THE CARDS: each row of Qxb6615790aFmtRows.lean that lists a variable, with what it lists TIED to the program's text (the seventh form; the later family's looks); each row that meets fmt, with fmt's text TOLD by the authors' own Lean function (tested against real Go, not proved from fmt's source: count such statements apart). THE CARD IS WHAT COUNTS. Prove the row's statement (the work); the ties are given (Qxb6615790aFmtTie.lean); close each card by the builder's one call (the guide's Derived/Test/ToyasCard.lean, 'card_holds'). Laid BY PROGRAM, IN A SANDBOX (cutbox-door.mjs). By AI agents, Wed Nov 11 2026. No macro, syntax, notation, axiom, sorry.
-/
import Derived.Test.Qxb6615790aFmtRows
import GoSem.ClaimSeven
namespace Go.Proofs.Qxb6615790aFmt
namespace Rows

/-- THE TOLD CARD OF 'zzlaws_internal_jsonl_b1.FnObjectStringSeesAddedField'. -/
def fnObjectStringSeesAddedFieldCard : Claim7 := { stood := { row := fnObjectStringSeesAddedFieldRow, standIns := [], harness := (true, "c6a38d74ae3192f3dd7f3644f88c9aef28ccef1e4635784efff8d020b5eb8246"), looks := true }, told := true, goes := false }
def FnObjectStringSeesAddedFieldToldSaid : Prop := Claim7.holds Tryf.pinned (.plain (OpenSpec.ofChange fnObjectStringSeesAddedFieldSpec)) fnObjectStringSeesAddedFieldCard
/-- ITS FALSE NEIGHBOUR. Refute it at one input. -/
def FnObjectStringSeesAddedFieldToldWrongFalsely : Prop := Claim7.holds Tryf.pinned (.plain (OpenSpec.ofChange fnObjectStringSeesAddedFieldWrong)) fnObjectStringSeesAddedFieldCard
end Rows
end Go.Proofs.Qxb6615790aFmt
