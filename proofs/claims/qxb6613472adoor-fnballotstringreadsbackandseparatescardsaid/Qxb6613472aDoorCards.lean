/-
  DERIVED. GIVEN WITH THE SEED: THE CARDS: each row of Qxb6613472aDoorRows.lean that lists a variable, with what it lists TIED to the program's text (the seventh form; the later family's looks); each row that meets fmt, with fmt's text TOLD by the authors' own Lean function (tested against real Go, not proved from fmt's source: count such statements apart). THE CARD IS WHAT COUNTS. Prove the row's statement (the work); the ties are given (Qxb6613472aDoorTie.lean); close each card by the builder's one call (the guide's Derived/Test/ToyasCard.lean, 'card_holds'). Laid BY PROGRAM, IN A SANDBOX (cutbox-door.mjs). By AI agents, Wed Nov 11 2026. No macro, syntax, notation, axiom, sorry.
-/
import Derived.Test.Qxb6613472aDoorRows
import GoSem.ClaimSeven
namespace Go.Proofs.Qxb6613472aDoor
namespace Rows

/-- THE TIED CARD OF 'zzlaws_root_b1.FnBallotStringReadsBackAndSeparates'. -/
def fnBallotStringReadsBackAndSeparatesCard : Claim7 := { stood := { row := fnBallotStringReadsBackAndSeparatesRow, standIns := [], harness := (true, "419239cfa3d539b7095f0705aeee80fb980ed9f8c4192625f3ec82b93d9b0ffd"), looks := false }, kinds := [], alts := [], laidByText := true, laidKinds := [.data, .data, .data], laidTests := true, laidLooks := .later }
def FnBallotStringReadsBackAndSeparatesCardSaid : Prop := Claim7.holds Tryd.pinned (.plain (OpenSpec.ofChange fnBallotStringReadsBackAndSeparatesSpec)) fnBallotStringReadsBackAndSeparatesCard

/-- THE TIED CARD OF 'zzlaws_root_b1.FnBallotStringJoinsRoundAndNodeTexts'. -/
def fnBallotStringJoinsRoundAndNodeTextsCard : Claim7 := { stood := { row := fnBallotStringJoinsRoundAndNodeTextsRow, standIns := [], harness := (true, "419239cfa3d539b7095f0705aeee80fb980ed9f8c4192625f3ec82b93d9b0ffd"), looks := false }, kinds := [], alts := [], laidByText := true, laidKinds := [.data, .data, .data], laidTests := true, laidLooks := .later }
def FnBallotStringJoinsRoundAndNodeTextsCardSaid : Prop := Claim7.holds Tryd.pinned (.plain (OpenSpec.ofChange fnBallotStringJoinsRoundAndNodeTextsSpec)) fnBallotStringJoinsRoundAndNodeTextsCard
end Rows
end Go.Proofs.Qxb6613472aDoor
