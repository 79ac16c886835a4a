/-
  DERIVED. GIVEN WITH THE SEED: THE CARDS: each row of Qxb6616519aFmtRows.lean that lists a variable, with what it lists TIED to the program's text (the seventh form; the later family's looks); each row that meets fmt, with fmt's text TOLD by the authors' own Lean function (tested against real Go, not proved from fmt's source: count such statements apart). THE CARD IS WHAT COUNTS. Prove the row's statement (the work); the ties are given (Qxb6616519aFmtTie.lean); close each card by the builder's one call (the guide's Derived/Test/ToyasCard.lean, 'card_holds'). Laid BY PROGRAM, IN A SANDBOX (cutbox-door.mjs). By AI agents, Wed Nov 11 2026. No macro, syntax, notation, axiom, sorry.
-/
import Derived.Test.Qxb6616519aFmtRows
import GoSem.ClaimSeven
namespace Go.Proofs.Qxb6616519aFmt
namespace Rows

/-- THE TOLD AND TIED CARD OF 'zzlaws_root_b1.FnCopyLinesSelectsAscendingPrefix'. -/
def fnCopyLinesSelectsAscendingPrefixCard : Claim7 := { stood := { row := fnCopyLinesSelectsAscendingPrefixRow, standIns := [], harness := (true, "d27467c33a6979e49e39309ae1902c745b22a3c02a74aa01e47e632933ad175f"), looks := true }, told := true, laidByText := true, laidKinds := [.sentinel, .sentinel, .sentinel, .sentinel], laidTests := true, laidLooks := .later, goes := false }
def FnCopyLinesSelectsAscendingPrefixToldSaid : Prop := Claim7.holds Tryf.pinned (.plain (OpenSpec.ofChange fnCopyLinesSelectsAscendingPrefixSpec)) fnCopyLinesSelectsAscendingPrefixCard
/-- ITS FALSE NEIGHBOUR. Refute it at one input. -/
def FnCopyLinesSelectsAscendingPrefixToldWrongFalsely : Prop := Claim7.holds Tryf.pinned (.plain (OpenSpec.ofChange fnCopyLinesSelectsAscendingPrefixWrong)) fnCopyLinesSelectsAscendingPrefixCard

/-- THE TOLD AND TIED CARD OF 'zzlaws_root_b1.FnCopyLinesComposes'. -/
def fnCopyLinesComposesCard : Claim7 := { stood := { row := fnCopyLinesComposesRow, standIns := [], harness := (true, "d27467c33a6979e49e39309ae1902c745b22a3c02a74aa01e47e632933ad175f"), looks := true }, told := true, laidByText := true, laidKinds := [.sentinel, .sentinel, .sentinel, .sentinel], laidTests := true, laidLooks := .later, goes := false }
def FnCopyLinesComposesToldSaid : Prop := Claim7.holds Tryf.pinned (.plain (OpenSpec.ofChange fnCopyLinesComposesSpec)) fnCopyLinesComposesCard
/-- ITS FALSE NEIGHBOUR. Refute it at one input. -/
def FnCopyLinesComposesToldWrongFalsely : Prop := Claim7.holds Tryf.pinned (.plain (OpenSpec.ofChange fnCopyLinesComposesWrong)) fnCopyLinesComposesCard
end Rows
end Go.Proofs.Qxb6616519aFmt
