/-
  DERIVED. GIVEN WITH THE SEED: THE CARDS: each row of Qxb6615958aFmtRows.lean that lists a variable, with what it lists TIED to the program's text (the seventh form; the later family's looks); each row that meets fmt, with fmt's text TOLD by the authors' own Lean function (tested against real Go, not proved from fmt's source: count such statements apart). THE CARD IS WHAT COUNTS. Prove the row's statement (the work); the ties are given (Qxb6615958aFmtTie.lean); close each card by the builder's one call (the guide's Derived/Test/ToyasCard.lean, 'card_holds'). Laid BY PROGRAM, IN A SANDBOX (cutbox-door.mjs). By AI agents, Wed Nov 11 2026. No macro, syntax, notation, axiom, sorry.
-/
import Derived.Test.Qxb6615958aFmtRows
import GoSem.ClaimSeven
namespace Go.Proofs.Qxb6615958aFmt
namespace Rows

/-- THE TOLD CARD OF 'zzlaws_signature_b1.FnCheckCriticalFirstMatchDecides'. -/
def fnCheckCriticalFirstMatchDecidesCard : Claim7 := { stood := { row := fnCheckCriticalFirstMatchDecidesRow, standIns := [], harness := (true, "ef4301941d96080d64581f4f1536cd971f570e867f84761881b905b09538bd3b"), looks := false }, told := true, goes := false }
def FnCheckCriticalFirstMatchDecidesToldSaid : Prop := Claim7.holds Tryf.pinned (.plain (OpenSpec.ofChange fnCheckCriticalFirstMatchDecidesSpec)) fnCheckCriticalFirstMatchDecidesCard
/-- ITS FALSE NEIGHBOUR. Refute it at one input. -/
def FnCheckCriticalFirstMatchDecidesToldWrongFalsely : Prop := Claim7.holds Tryf.pinned (.plain (OpenSpec.ofChange fnCheckCriticalFirstMatchDecidesWrong)) fnCheckCriticalFirstMatchDecidesCard

/-- THE TOLD CARD OF 'zzlaws_signature_b1.FnCheckCriticalFlipSisters'. -/
def fnCheckCriticalFlipSistersCard : Claim7 := { stood := { row := fnCheckCriticalFlipSistersRow, standIns := [], harness := (true, "ef4301941d96080d64581f4f1536cd971f570e867f84761881b905b09538bd3b"), looks := false }, told := true, goes := false }
def FnCheckCriticalFlipSistersToldSaid : Prop := Claim7.holds Tryf.pinned (.plain (OpenSpec.ofChange fnCheckCriticalFlipSistersSpec)) fnCheckCriticalFlipSistersCard
/-- ITS FALSE NEIGHBOUR. Refute it at one input. -/
def FnCheckCriticalFlipSistersToldWrongFalsely : Prop := Claim7.holds Tryf.pinned (.plain (OpenSpec.ofChange fnCheckCriticalFlipSistersWrong)) fnCheckCriticalFlipSistersCard
end Rows
end Go.Proofs.Qxb6615958aFmt
