/-
  NARROWER THAN 'FOR EVERY INPUT', by the rows' own cells (each row's printed sentence says how): FnInputSourcesBySource: maps · FnInputSourcesJoinAtAnyCut: maps.
  DERIVED. THE GIVEN ROWS OF THIS SEAT. 3 by the template 'for every input the law returns true; each argument reads behind the call as it read before'; 0 by the template 'total and deterministic' (their statements: Qxb6616271aTotals.lean).
  GIVEN WITH THE SEED: the statements are not yours to turn. If you find one false, say at which input.
  Laid BY PROGRAM, IN A SANDBOX (cutbox-rows.mjs): the forced cells as the released guide's own fill.sh prints them over the translation 8828bc8155ff2049… (all of the seat's roots in one cut). By AI agents, Wed Nov 11 2026. No macro, syntax, notation, axiom, sorry.
-/
import Derived.Test.Qxb6616271aChecked
import GoSem.Claim
import GoSem.ClaimJoined
import GoSem.ClaimMapViews
import Derived.JoinedTies
import Derived.KernelRfl
namespace Go.Proofs.Qxb6616271a
/- THE CELL 'sum', in the pinned program and in every row, IS THE sha256 OF THE DUMP (.gsa) THAT Qxb6616271aProg.lean LOADS. Nothing in Lean hashes anything: it is a label: what it is worth is what the hold of that sum in a sandbox is worth. -/
noncomputable def Try.pinned : Pinned := { name := "qxb6616271a", sum := "8828bc8155ff204992c5851263ec154ff10327771b860b3c249177853ed5759e", checked := Try.checked }
namespace Rows
def none {H : Type} : Left H := { results := [], args := [] }

/-- 'zzlaws_pkg_runbook_b1.FnInputSourcesBySource': WHATEVER THE INPUT: true; the input reads as it did. -/
def fnInputSourcesBySourceSpec : ChangeSpec := { name := "fnInputSourcesBySource", fn := fun _ => fun
  | [d1, d2, d3] => { results := [.lit (.bool true)], args := [d1, d2, d3] }
  | _ => none }
def fnInputSourcesBySourceRow : OpenClaim := { program := "qxb6616271a", sum := "8828bc8155ff204992c5851263ec154ff10327771b860b3c249177853ed5759e", func := "example.com/stepwarden/stepwarden/zzlaws_pkg_runbook_b1.FnInputSourcesBySource", spec := "fnInputSourcesBySource", maps := true, apart := false }
def FnInputSourcesBySourceSaid : Prop := fnInputSourcesBySourceRow.holds Try.pinned (OpenSpec.ofChange fnInputSourcesBySourceSpec)

/-- ITS FALSE NEIGHBOUR: 'it returns false'. Refute it at one input. -/
def fnInputSourcesBySourceWrong : ChangeSpec := { name := "fnInputSourcesBySource", fn := fun _ => fun
  | [d1, d2, d3] => { results := [.lit (.bool false)], args := [d1, d2, d3] }
  | _ => none }
def FnInputSourcesBySourceWrongFalsely : Prop := fnInputSourcesBySourceRow.holds Try.pinned (OpenSpec.ofChange fnInputSourcesBySourceWrong)

/-- 'zzlaws_pkg_runbook_b1.FnInputSourcesJoinAtAnyCut': WHATEVER THE INPUT: true; the input reads as it did. -/
def fnInputSourcesJoinAtAnyCutSpec : ChangeSpec := { name := "fnInputSourcesJoinAtAnyCut", fn := fun _ => fun
  | [d1, d2, d3, d4] => { results := [.lit (.bool true)], args := [d1, d2, d3, d4] }
  | _ => none }
def fnInputSourcesJoinAtAnyCutRow : OpenClaim := { program := "qxb6616271a", sum := "8828bc8155ff204992c5851263ec154ff10327771b860b3c249177853ed5759e", func := "example.com/stepwarden/stepwarden/zzlaws_pkg_runbook_b1.FnInputSourcesJoinAtAnyCut", spec := "fnInputSourcesJoinAtAnyCut", maps := true, apart := false }
def FnInputSourcesJoinAtAnyCutSaid : Prop := fnInputSourcesJoinAtAnyCutRow.holds Try.pinned (OpenSpec.ofChange fnInputSourcesJoinAtAnyCutSpec)

/-- ITS FALSE NEIGHBOUR: 'it returns false'. Refute it at one input. -/
def fnInputSourcesJoinAtAnyCutWrong : ChangeSpec := { name := "fnInputSourcesJoinAtAnyCut", fn := fun _ => fun
  | [d1, d2, d3, d4] => { results := [.lit (.bool false)], args := [d1, d2, d3, d4] }
  | _ => none }
def FnInputSourcesJoinAtAnyCutWrongFalsely : Prop := fnInputSourcesJoinAtAnyCutRow.holds Try.pinned (OpenSpec.ofChange fnInputSourcesJoinAtAnyCutWrong)

/-- 'zzlaws_pkg_runbook_b1.FnRedactionOfEndCoversWhatTheWholeTextDoes': WHATEVER THE INPUT: true; the input reads as it did. -/
def fnRedactionOfEndCoversWhatTheWholeTextDoesSpec : ChangeSpec := { name := "fnRedactionOfEndCoversWhatTheWholeTextDoes", fn := fun _ => fun
  | [d1, d2, d3] => { results := [.lit (.bool true)], args := [d1, d2, d3] }
  | _ => none }
def fnRedactionOfEndCoversWhatTheWholeTextDoesRow : OpenClaim := { program := "qxb6616271a", sum := "8828bc8155ff204992c5851263ec154ff10327771b860b3c249177853ed5759e", func := "example.com/stepwarden/stepwarden/zzlaws_pkg_runbook_b1.FnRedactionOfEndCoversWhatTheWholeTextDoes", spec := "fnRedactionOfEndCoversWhatTheWholeTextDoes", inPlace := ["internal/bytealg.IndexByte", "internal/bytealg.Index"], unfollowed := true, recurses := true, named := ["internal/bytealg.MaxLen"], apart := false }
def FnRedactionOfEndCoversWhatTheWholeTextDoesSaid : Prop := fnRedactionOfEndCoversWhatTheWholeTextDoesRow.holds Try.pinned (OpenSpec.ofChange fnRedactionOfEndCoversWhatTheWholeTextDoesSpec)

/-- ITS FALSE NEIGHBOUR: 'it returns false'. Refute it at one input. -/
def fnRedactionOfEndCoversWhatTheWholeTextDoesWrong : ChangeSpec := { name := "fnRedactionOfEndCoversWhatTheWholeTextDoes", fn := fun _ => fun
  | [d1, d2, d3] => { results := [.lit (.bool false)], args := [d1, d2, d3] }
  | _ => none }
def FnRedactionOfEndCoversWhatTheWholeTextDoesWrongFalsely : Prop := fnRedactionOfEndCoversWhatTheWholeTextDoesRow.holds Try.pinned (OpenSpec.ofChange fnRedactionOfEndCoversWhatTheWholeTextDoesWrong)

end Rows
end Go.Proofs.Qxb6616271a
