/-
  No cell of these rows narrows 'for every input' (looked for: loops, veiled, ifaces, maps, wideKeys, modest, calm, conditions, laid).
  DERIVED. THE GIVEN ROWS OF THIS SEAT. 3 by the template 'for every input the law returns true; each argument reads behind the call as it read before'; 0 by the template 'total and deterministic' (their statements: Qxb6616246aTotals.lean).
  GIVEN WITH THE SEED: the statements are not yours to turn. If you find one false, say at which input.
  Laid BY PROGRAM, IN A SANDBOX (cutbox-rows.mjs): the forced cells as the released guide's own fill.sh prints them over the translation 4e6cdbada7ba932a… (all of the seat's roots in one cut). By AI agents, Wed Nov 11 2026. No macro, syntax, notation, axiom, sorry.
-/
import Derived.Test.Qxb6616246aChecked
import GoSem.Claim
import GoSem.ClaimJoined
import GoSem.ClaimMapViews
import Derived.JoinedTies
import Derived.KernelRfl
namespace Go.Proofs.Qxb6616246a
/- THE CELL 'sum', in the pinned program and in every row, IS THE sha256 OF THE DUMP (.gsa) THAT Qxb6616246aProg.lean LOADS. Nothing in Lean hashes anything: it is a label: what it is worth is what the hold of that sum in a sandbox is worth. -/
noncomputable def Try.pinned : Pinned := { name := "qxb6616246a", sum := "4e6cdbada7ba932a902bafabb2b53000cb53e5b1d4346546dc97d68bdba9dee1", checked := Try.checked }
namespace Rows
def none {H : Type} : Left H := { results := [], args := [] }

/-- 'zzlaws_pkg_scrub_b1.FnAuthorizationHeadersHeaderLineThenRest': WHATEVER THE INPUT: true; the input reads as it did. -/
def fnAuthorizationHeadersHeaderLineThenRestSpec : ChangeSpec := { name := "fnAuthorizationHeadersHeaderLineThenRest", fn := fun _ => fun
  | [d1, d2, d3, d4, d5] => { results := [.lit (.bool true)], args := [d1, d2, d3, d4, d5] }
  | _ => none }
def fnAuthorizationHeadersHeaderLineThenRestRow : OpenClaim := { program := "qxb6616246a", sum := "4e6cdbada7ba932a902bafabb2b53000cb53e5b1d4346546dc97d68bdba9dee1", func := "example.com/toolwright/toolwright/zzlaws_pkg_scrub_b1.FnAuthorizationHeadersHeaderLineThenRest", spec := "fnAuthorizationHeadersHeaderLineThenRest", inPlace := ["internal/bytealg.IndexByteString", "internal/bytealg.IndexString"], unfollowed := true, recurses := true, named := ["internal/bytealg.MaxLen"], apart := false }
def FnAuthorizationHeadersHeaderLineThenRestSaid : Prop := fnAuthorizationHeadersHeaderLineThenRestRow.holds Try.pinned (OpenSpec.ofChange fnAuthorizationHeadersHeaderLineThenRestSpec)

/-- ITS FALSE NEIGHBOUR: 'it returns false'. Refute it at one input. -/
def fnAuthorizationHeadersHeaderLineThenRestWrong : ChangeSpec := { name := "fnAuthorizationHeadersHeaderLineThenRest", fn := fun _ => fun
  | [d1, d2, d3, d4, d5] => { results := [.lit (.bool false)], args := [d1, d2, d3, d4, d5] }
  | _ => none }
def FnAuthorizationHeadersHeaderLineThenRestWrongFalsely : Prop := fnAuthorizationHeadersHeaderLineThenRestRow.holds Try.pinned (OpenSpec.ofChange fnAuthorizationHeadersHeaderLineThenRestWrong)

/-- 'zzlaws_pkg_scrub_b1.FnAuthorizationHeadersQuotedValueAnyCase': WHATEVER THE INPUT: true; the input reads as it did. -/
def fnAuthorizationHeadersQuotedValueAnyCaseSpec : ChangeSpec := { name := "fnAuthorizationHeadersQuotedValueAnyCase", fn := fun _ => fun
  | [d1, d2, d3] => { results := [.lit (.bool true)], args := [d1, d2, d3] }
  | _ => none }
def fnAuthorizationHeadersQuotedValueAnyCaseRow : OpenClaim := { program := "qxb6616246a", sum := "4e6cdbada7ba932a902bafabb2b53000cb53e5b1d4346546dc97d68bdba9dee1", func := "example.com/toolwright/toolwright/zzlaws_pkg_scrub_b1.FnAuthorizationHeadersQuotedValueAnyCase", spec := "fnAuthorizationHeadersQuotedValueAnyCase", inPlace := ["internal/bytealg.IndexByteString", "internal/bytealg.IndexString"], unfollowed := true, recurses := true, named := ["internal/bytealg.MaxLen"], apart := false }
def FnAuthorizationHeadersQuotedValueAnyCaseSaid : Prop := fnAuthorizationHeadersQuotedValueAnyCaseRow.holds Try.pinned (OpenSpec.ofChange fnAuthorizationHeadersQuotedValueAnyCaseSpec)

/-- ITS FALSE NEIGHBOUR: 'it returns false'. Refute it at one input. -/
def fnAuthorizationHeadersQuotedValueAnyCaseWrong : ChangeSpec := { name := "fnAuthorizationHeadersQuotedValueAnyCase", fn := fun _ => fun
  | [d1, d2, d3] => { results := [.lit (.bool false)], args := [d1, d2, d3] }
  | _ => none }
def FnAuthorizationHeadersQuotedValueAnyCaseWrongFalsely : Prop := fnAuthorizationHeadersQuotedValueAnyCaseRow.holds Try.pinned (OpenSpec.ofChange fnAuthorizationHeadersQuotedValueAnyCaseWrong)

/-- 'zzlaws_pkg_scrub_b1.FnPrivateKeyLabelBlockSuffixOnce': WHATEVER THE INPUT: true; the input reads as it did. -/
def fnPrivateKeyLabelBlockSuffixOnceSpec : ChangeSpec := { name := "fnPrivateKeyLabelBlockSuffixOnce", fn := fun _ => fun
  | [d] => { results := [.lit (.bool true)], args := [d] }
  | _ => none }
def fnPrivateKeyLabelBlockSuffixOnceRow : OpenClaim := { program := "qxb6616246a", sum := "4e6cdbada7ba932a902bafabb2b53000cb53e5b1d4346546dc97d68bdba9dee1", func := "example.com/toolwright/toolwright/zzlaws_pkg_scrub_b1.FnPrivateKeyLabelBlockSuffixOnce", spec := "fnPrivateKeyLabelBlockSuffixOnce", apart := false }
def FnPrivateKeyLabelBlockSuffixOnceSaid : Prop := fnPrivateKeyLabelBlockSuffixOnceRow.holds Try.pinned (OpenSpec.ofChange fnPrivateKeyLabelBlockSuffixOnceSpec)

/-- ITS FALSE NEIGHBOUR: 'it returns false'. Refute it at one input. -/
def fnPrivateKeyLabelBlockSuffixOnceWrong : ChangeSpec := { name := "fnPrivateKeyLabelBlockSuffixOnce", fn := fun _ => fun
  | [d] => { results := [.lit (.bool false)], args := [d] }
  | _ => none }
def FnPrivateKeyLabelBlockSuffixOnceWrongFalsely : Prop := fnPrivateKeyLabelBlockSuffixOnceRow.holds Try.pinned (OpenSpec.ofChange fnPrivateKeyLabelBlockSuffixOnceWrong)

end Rows
end Go.Proofs.Qxb6616246a
