/-
  No cell of these rows narrows 'for every input' (looked for: loops, veiled, ifaces, maps, wideKeys, modest, calm, conditions, laid).
  DERIVED. THE GIVEN ROWS OF THIS SEAT. 2 by the template 'for every input the law returns true; each argument reads behind the call as it read before'; 0 by the template 'total and deterministic' (their statements: Qxb6616084aTotals.lean).
  GIVEN WITH THE SEED: the statements are not yours to turn. If you find one false, say at which input.
  Laid BY PROGRAM, IN A SANDBOX (cutbox-rows.mjs): the forced cells as the released guide's own fill.sh prints them over the translation 70015ffa4539bbd1… (all of the seat's roots in one cut). By AI agents, Wed Nov 11 2026. No macro, syntax, notation, axiom, sorry.
-/
import Derived.Test.Qxb6616084aChecked
import GoSem.Claim
import GoSem.ClaimJoined
import GoSem.ClaimMapViews
import Derived.JoinedTies
import Derived.KernelRfl
namespace Go.Proofs.Qxb6616084a
/- THE CELL 'sum', in the pinned program and in every row, IS THE sha256 OF THE DUMP (.gsa) THAT Qxb6616084aProg.lean LOADS. Nothing in Lean hashes anything: it is a label: what it is worth is what the hold of that sum in a sandbox is worth. -/
noncomputable def Try.pinned : Pinned := { name := "qxb6616084a", sum := "70015ffa4539bbd1a097e16dcddea297c1d59b7854ac441eada8f647d873e8c0", checked := Try.checked }
namespace Rows
def none {H : Type} : Left H := { results := [], args := [] }

/-- 'zzlaws_internal_rules_b1.FnPlaceOfMatchesAncestorWalk': WHATEVER THE INPUT: true; the input reads as it did. -/
def fnPlaceOfMatchesAncestorWalkSpec : ChangeSpec := { name := "fnPlaceOfMatchesAncestorWalk", fn := fun _ => fun
  | [d1, d2] => { results := [.lit (.bool true)], args := [d1, d2] }
  | _ => none }
def fnPlaceOfMatchesAncestorWalkRow : OpenClaim := { program := "qxb6616084a", sum := "70015ffa4539bbd1a097e16dcddea297c1d59b7854ac441eada8f647d873e8c0", func := "example.com/inward-layers/inward-layers/zzlaws_internal_rules_b1.FnPlaceOfMatchesAncestorWalk", spec := "fnPlaceOfMatchesAncestorWalk", inPlace := ["internal/bytealg.CountString", "internal/bytealg.IndexByteString", "internal/bytealg.IndexString"], named := ["internal/bytealg.MaxLen"], apart := false }
def FnPlaceOfMatchesAncestorWalkSaid : Prop := fnPlaceOfMatchesAncestorWalkRow.holds Try.pinned (OpenSpec.ofChange fnPlaceOfMatchesAncestorWalkSpec)

/-- ITS FALSE NEIGHBOUR: 'it returns false'. Refute it at one input. -/
def fnPlaceOfMatchesAncestorWalkWrong : ChangeSpec := { name := "fnPlaceOfMatchesAncestorWalk", fn := fun _ => fun
  | [d1, d2] => { results := [.lit (.bool false)], args := [d1, d2] }
  | _ => none }
def FnPlaceOfMatchesAncestorWalkWrongFalsely : Prop := fnPlaceOfMatchesAncestorWalkRow.holds Try.pinned (OpenSpec.ofChange fnPlaceOfMatchesAncestorWalkWrong)

/-- 'zzlaws_internal_rules_b1.FnPlaceOfMirrorsReversedLayers': WHATEVER THE INPUT: true; the input reads as it did. -/
def fnPlaceOfMirrorsReversedLayersSpec : ChangeSpec := { name := "fnPlaceOfMirrorsReversedLayers", fn := fun _ => fun
  | [d1, d2] => { results := [.lit (.bool true)], args := [d1, d2] }
  | _ => none }
def fnPlaceOfMirrorsReversedLayersRow : OpenClaim := { program := "qxb6616084a", sum := "70015ffa4539bbd1a097e16dcddea297c1d59b7854ac441eada8f647d873e8c0", func := "example.com/inward-layers/inward-layers/zzlaws_internal_rules_b1.FnPlaceOfMirrorsReversedLayers", spec := "fnPlaceOfMirrorsReversedLayers", inPlace := ["internal/bytealg.CountString", "internal/bytealg.IndexByteString", "internal/bytealg.IndexString"], named := ["internal/bytealg.MaxLen"], apart := false }
def FnPlaceOfMirrorsReversedLayersSaid : Prop := fnPlaceOfMirrorsReversedLayersRow.holds Try.pinned (OpenSpec.ofChange fnPlaceOfMirrorsReversedLayersSpec)

/-- ITS FALSE NEIGHBOUR: 'it returns false'. Refute it at one input. -/
def fnPlaceOfMirrorsReversedLayersWrong : ChangeSpec := { name := "fnPlaceOfMirrorsReversedLayers", fn := fun _ => fun
  | [d1, d2] => { results := [.lit (.bool false)], args := [d1, d2] }
  | _ => none }
def FnPlaceOfMirrorsReversedLayersWrongFalsely : Prop := fnPlaceOfMirrorsReversedLayersRow.holds Try.pinned (OpenSpec.ofChange fnPlaceOfMirrorsReversedLayersWrong)

end Rows
end Go.Proofs.Qxb6616084a
