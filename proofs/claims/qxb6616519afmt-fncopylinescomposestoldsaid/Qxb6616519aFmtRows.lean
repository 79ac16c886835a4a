/-
  NARROWER THAN 'FOR EVERY INPUT', by the rows' own cells (each row's printed sentence says how): FnCopyLinesSelectsAscendingPrefix: laid · FnCopyLinesComposes: laid.
  DERIVED. THE GIVEN ROWS OF THIS SEAT. 2 by the template 'for every input the law returns true; each argument reads behind the call as it read before'; 0 by the template 'total and deterministic' (their statements: Qxb6616519aFmtTotals.lean).
  GIVEN WITH THE SEED: the statements are not yours to turn. If you find one false, say at which input.
  Laid BY PROGRAM, IN A SANDBOX (cutbox-rows.mjs): the forced cells as the released guide's own fill.sh prints them over the translation 04bc7daae7e860ca… (all of the seat's roots in one cut). By AI agents, Wed Nov 11 2026. No macro, syntax, notation, axiom, sorry.
-/
import Derived.Test.Qxb6616519aFmtChecked
import GoSem.Claim
import GoSem.ClaimJoined
import GoSem.ClaimMapViews
import Derived.JoinedTies
import Derived.KernelRfl
namespace Go.Proofs.Qxb6616519aFmt
/- THE CELL 'sum', in the pinned program and in every row, IS THE sha256 OF THE DUMP (.gsa) THAT Qxb6616519aFmtProg.lean LOADS. Nothing in Lean hashes anything: it is a label: what it is worth is what the hold of that sum in a sandbox is worth. -/
noncomputable def Tryf.pinned : Pinned := { name := "qxb6616519afmt", sum := "04bc7daae7e860ca52ccbebda5051026c1e98375ad8af328836f7cc5341f11bc", checked := Tryf.checked }
namespace Rows
def none {H : Type} : Left H := { results := [], args := [] }

/- WHAT THE LISTED PACKAGE-LEVEL VARIABLES READ AS WHEN THE CALL BEGINS. Each datum BY PROGRAM (the guide's laid-datum.mjs) off the statement by which the dump's own 'gosem.cut.vars' lays the variable. In a bare row this is a premise. The card (Qxb6616519aFmtCards.lean) ties it to the program's text. -/
def laid_io_EOF {H : Type} : DataW H := .iface "*errors.errorString" (.ptr (.agg [.lit (.string [69, 79, 70])]))
def laid_io_ErrNoProgress {H : Type} : DataW H := .iface "*errors.errorString" (.ptr (.agg [.lit (.string [109, 117, 108, 116, 105, 112, 108, 101, 32, 82, 101, 97, 100, 32, 99, 97, 108, 108, 115, 32, 114, 101, 116, 117, 114, 110, 32, 110, 111, 32, 100, 97, 116, 97, 32, 111, 114, 32, 101, 114, 114, 111, 114])]))
def laid_bufio_ErrBufferFull {H : Type} : DataW H := .iface "*errors.errorString" (.ptr (.agg [.lit (.string [98, 117, 102, 105, 111, 58, 32, 98, 117, 102, 102, 101, 114, 32, 102, 117, 108, 108])]))
def laid_bufio_errNegativeRead {H : Type} : DataW H := .iface "*errors.errorString" (.ptr (.agg [.lit (.string [98, 117, 102, 105, 111, 58, 32, 114, 101, 97, 100, 101, 114, 32, 114, 101, 116, 117, 114, 110, 101, 100, 32, 110, 101, 103, 97, 116, 105, 118, 101, 32, 99, 111, 117, 110, 116, 32, 102, 114, 111, 109, 32, 82, 101, 97, 100])]))

/-- 'zzlaws_root_b1.FnCopyLinesSelectsAscendingPrefix': WHATEVER THE INPUT: true; the input reads as it did. -/
def fnCopyLinesSelectsAscendingPrefixSpec : ChangeSpec := { name := "fnCopyLinesSelectsAscendingPrefix", fn := fun _ => fun
  | [d1, d2] => { results := [.lit (.bool true)], args := [d1, d2] }
  | _ => none }
def fnCopyLinesSelectsAscendingPrefixRow : OpenClaim := { program := "qxb6616519afmt", sum := "04bc7daae7e860ca52ccbebda5051026c1e98375ad8af328836f7cc5341f11bc", func := "example.com/visarion/visarion/zzlaws_root_b1.FnCopyLinesSelectsAscendingPrefix", spec := "fnCopyLinesSelectsAscendingPrefix", stops := ["fmt.errorf"], inPlace := ["internal/bytealg.IndexByte", "fmt.errorf"], unfollowed := true, recurses := true, named := ["bufio.ErrBufferFull", "io.EOF", "bufio.errNegativeRead", "io.ErrNoProgress"], apart := false, laid := [("io.EOF", laid_io_EOF), ("io.ErrNoProgress", laid_io_ErrNoProgress), ("bufio.ErrBufferFull", laid_bufio_ErrBufferFull), ("bufio.errNegativeRead", laid_bufio_errNegativeRead)] }
/-- NO THEOREM (fmt's text is open here; it may be false): for the released tool's asking of the row's closed facts alone. THE STATEMENT IS 'FnCopyLinesSelectsAscendingPrefixToldSaid' (Qxb6616519aFmtCards.lean). -/
def FnCopyLinesSelectsAscendingPrefixFormAsk : Prop := fnCopyLinesSelectsAscendingPrefixRow.holds Tryf.pinned (OpenSpec.ofChange fnCopyLinesSelectsAscendingPrefixSpec)

/-- ITS FALSE NEIGHBOUR: 'it returns false'. Refute it at one input. -/
def fnCopyLinesSelectsAscendingPrefixWrong : ChangeSpec := { name := "fnCopyLinesSelectsAscendingPrefix", fn := fun _ => fun
  | [d1, d2] => { results := [.lit (.bool false)], args := [d1, d2] }
  | _ => none }
def FnCopyLinesSelectsAscendingPrefixWrongFormAsk : Prop := fnCopyLinesSelectsAscendingPrefixRow.holds Tryf.pinned (OpenSpec.ofChange fnCopyLinesSelectsAscendingPrefixWrong)

/-- 'zzlaws_root_b1.FnCopyLinesComposes': WHATEVER THE INPUT: true; the input reads as it did. -/
def fnCopyLinesComposesSpec : ChangeSpec := { name := "fnCopyLinesComposes", fn := fun _ => fun
  | [d1, d2, d3] => { results := [.lit (.bool true)], args := [d1, d2, d3] }
  | _ => none }
def fnCopyLinesComposesRow : OpenClaim := { program := "qxb6616519afmt", sum := "04bc7daae7e860ca52ccbebda5051026c1e98375ad8af328836f7cc5341f11bc", func := "example.com/visarion/visarion/zzlaws_root_b1.FnCopyLinesComposes", spec := "fnCopyLinesComposes", stops := ["fmt.errorf"], inPlace := ["internal/bytealg.IndexByte", "fmt.errorf"], unfollowed := true, recurses := true, named := ["bufio.ErrBufferFull", "io.EOF", "bufio.errNegativeRead", "io.ErrNoProgress"], apart := false, laid := [("io.EOF", laid_io_EOF), ("io.ErrNoProgress", laid_io_ErrNoProgress), ("bufio.ErrBufferFull", laid_bufio_ErrBufferFull), ("bufio.errNegativeRead", laid_bufio_errNegativeRead)] }
/-- NO THEOREM (fmt's text is open here; it may be false): for the released tool's asking of the row's closed facts alone. THE STATEMENT IS 'FnCopyLinesComposesToldSaid' (Qxb6616519aFmtCards.lean). -/
def FnCopyLinesComposesFormAsk : Prop := fnCopyLinesComposesRow.holds Tryf.pinned (OpenSpec.ofChange fnCopyLinesComposesSpec)

/-- ITS FALSE NEIGHBOUR: 'it returns false'. Refute it at one input. -/
def fnCopyLinesComposesWrong : ChangeSpec := { name := "fnCopyLinesComposes", fn := fun _ => fun
  | [d1, d2, d3] => { results := [.lit (.bool false)], args := [d1, d2, d3] }
  | _ => none }
def FnCopyLinesComposesWrongFormAsk : Prop := fnCopyLinesComposesRow.holds Tryf.pinned (OpenSpec.ofChange fnCopyLinesComposesWrong)

end Rows
end Go.Proofs.Qxb6616519aFmt
