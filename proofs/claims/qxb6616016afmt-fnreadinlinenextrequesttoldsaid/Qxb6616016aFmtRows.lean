/-
  NARROWER THAN 'FOR EVERY INPUT', by the rows' own cells (each row's printed sentence says how): FnReadInlineWordPrefix: ifaces, laid · FnReadInlineNextRequest: ifaces, laid · FnCutRequestIsUnexpectedEOF: ifaces, laid.
  DERIVED. THE GIVEN ROWS OF THIS SEAT. 3 by the template 'for every input the law returns true; each argument reads behind the call as it read before'; 0 by the template 'total and deterministic' (their statements: Qxb6616016aFmtTotals.lean).
  GIVEN WITH THE SEED: the statements are not yours to turn. If you find one false, say at which input.
  Laid BY PROGRAM, IN A SANDBOX (cutbox-rows.mjs): the forced cells as the released guide's own fill.sh prints them over the translation cd8f4ad00c1cc71e… (all of the seat's roots in one cut). By AI agents, Wed Nov 11 2026. No macro, syntax, notation, axiom, sorry.
-/
import Derived.Test.Qxb6616016aFmtChecked
import GoSem.Claim
import GoSem.ClaimJoined
import GoSem.ClaimMapViews
import Derived.JoinedTies
import Derived.KernelRfl
namespace Go.Proofs.Qxb6616016aFmt
/- THE CELL 'sum', in the pinned program and in every row, IS THE sha256 OF THE DUMP (.gsa) THAT Qxb6616016aFmtProg.lean LOADS. Nothing in Lean hashes anything: it is a label: what it is worth is what the hold of that sum in a sandbox is worth. -/
noncomputable def Tryf.pinned : Pinned := { name := "qxb6616016afmt", sum := "cd8f4ad00c1cc71e9fd0fbac2776f9de13b8ed95b463701ca2bc7dd039f47f39", checked := Tryf.checked }
namespace Rows
def none {H : Type} : Left H := { results := [], args := [] }

/- WHAT THE LISTED PACKAGE-LEVEL VARIABLES READ AS WHEN THE CALL BEGINS. Each datum BY PROGRAM (the guide's laid-datum.mjs) off the statement by which the dump's own 'gosem.cut.vars' lays the variable. In a bare row this is a premise. The card (Qxb6616016aFmtCards.lean) ties it to the program's text. -/
def laid_io_EOF {H : Type} : DataW H := .iface "*errors.errorString" (.ptr (.agg [.lit (.string [69, 79, 70])]))
def laid_io_ErrUnexpectedEOF {H : Type} : DataW H := .iface "*errors.errorString" (.ptr (.agg [.lit (.string [117, 110, 101, 120, 112, 101, 99, 116, 101, 100, 32, 69, 79, 70])]))
def laid_io_ErrNoProgress {H : Type} : DataW H := .iface "*errors.errorString" (.ptr (.agg [.lit (.string [109, 117, 108, 116, 105, 112, 108, 101, 32, 82, 101, 97, 100, 32, 99, 97, 108, 108, 115, 32, 114, 101, 116, 117, 114, 110, 32, 110, 111, 32, 100, 97, 116, 97, 32, 111, 114, 32, 101, 114, 114, 111, 114])]))
def laid_bufio_ErrBufferFull {H : Type} : DataW H := .iface "*errors.errorString" (.ptr (.agg [.lit (.string [98, 117, 102, 105, 111, 58, 32, 98, 117, 102, 102, 101, 114, 32, 102, 117, 108, 108])]))
def laid_bufio_errNegativeRead {H : Type} : DataW H := .iface "*errors.errorString" (.ptr (.agg [.lit (.string [98, 117, 102, 105, 111, 58, 32, 114, 101, 97, 100, 101, 114, 32, 114, 101, 116, 117, 114, 110, 101, 100, 32, 110, 101, 103, 97, 116, 105, 118, 101, 32, 99, 111, 117, 110, 116, 32, 102, 114, 111, 109, 32, 82, 101, 97, 100])]))
def laid_example_com_logtide_logtide_internal_resp_ErrProtocol {H : Type} : DataW H := .iface "*errors.errorString" (.ptr (.agg [.lit (.string [80, 114, 111, 116, 111, 99, 111, 108, 32, 101, 114, 114, 111, 114])]))

/-- 'zzlaws_internal_resp_b1.FnReadInlineWordPrefix': WHATEVER THE INPUT: true; the input reads as it did. -/
def fnReadInlineWordPrefixSpec : ChangeSpec := { name := "fnReadInlineWordPrefix", vars := ["example.com/logtide/logtide/internal/resp.ErrProtocol"], fn := fun _ => fun
  | [d1, d2, g1] => { results := [.lit (.bool true)], args := [d1, d2], vars := [g1] }
  | _ => none }
def fnReadInlineWordPrefixRow : OpenClaim := { program := "qxb6616016afmt", sum := "cd8f4ad00c1cc71e9fd0fbac2776f9de13b8ed95b463701ca2bc7dd039f47f39", func := "example.com/logtide/logtide/zzlaws_internal_resp_b1.FnReadInlineWordPrefix", spec := "fnReadInlineWordPrefix", stops := ["fmt.errorf"], inPlace := ["internal/bytealg.IndexByte", "internal/reflectlite.TypeOf", "fmt.errorf"], unfollowed := true, recurses := true, named := ["example.com/logtide/logtide/internal/resp.ErrProtocol", "io.ErrUnexpectedEOF", "bufio.ErrBufferFull", "bufio.errNegativeRead", "io.ErrNoProgress", "io.EOF"], ifaces := true, apart := false, laid := [("io.EOF", laid_io_EOF), ("io.ErrUnexpectedEOF", laid_io_ErrUnexpectedEOF), ("io.ErrNoProgress", laid_io_ErrNoProgress), ("bufio.ErrBufferFull", laid_bufio_ErrBufferFull), ("bufio.errNegativeRead", laid_bufio_errNegativeRead), ("example.com/logtide/logtide/internal/resp.ErrProtocol", laid_example_com_logtide_logtide_internal_resp_ErrProtocol)] }
/-- NO THEOREM (fmt's text is open here; it may be false): for the released tool's asking of the row's closed facts alone. THE STATEMENT IS 'FnReadInlineWordPrefixToldSaid' (Qxb6616016aFmtCards.lean). -/
def FnReadInlineWordPrefixFormAsk : Prop := fnReadInlineWordPrefixRow.holds Tryf.pinned (OpenSpec.ofChange fnReadInlineWordPrefixSpec)

/-- ITS FALSE NEIGHBOUR: 'it returns false'. Refute it at one input. -/
def fnReadInlineWordPrefixWrong : ChangeSpec := { name := "fnReadInlineWordPrefix", vars := ["example.com/logtide/logtide/internal/resp.ErrProtocol"], fn := fun _ => fun
  | [d1, d2, g1] => { results := [.lit (.bool false)], args := [d1, d2], vars := [g1] }
  | _ => none }
def FnReadInlineWordPrefixWrongFormAsk : Prop := fnReadInlineWordPrefixRow.holds Tryf.pinned (OpenSpec.ofChange fnReadInlineWordPrefixWrong)

/-- 'zzlaws_internal_resp_b1.FnReadInlineNextRequest': WHATEVER THE INPUT: true; the input reads as it did. -/
def fnReadInlineNextRequestSpec : ChangeSpec := { name := "fnReadInlineNextRequest", vars := ["example.com/logtide/logtide/internal/resp.ErrProtocol"], fn := fun _ => fun
  | [d1, d2, g1] => { results := [.lit (.bool true)], args := [d1, d2], vars := [g1] }
  | _ => none }
def fnReadInlineNextRequestRow : OpenClaim := { program := "qxb6616016afmt", sum := "cd8f4ad00c1cc71e9fd0fbac2776f9de13b8ed95b463701ca2bc7dd039f47f39", func := "example.com/logtide/logtide/zzlaws_internal_resp_b1.FnReadInlineNextRequest", spec := "fnReadInlineNextRequest", stops := ["fmt.errorf"], inPlace := ["internal/bytealg.IndexByte", "internal/reflectlite.TypeOf", "fmt.errorf"], unfollowed := true, recurses := true, named := ["example.com/logtide/logtide/internal/resp.ErrProtocol", "io.ErrUnexpectedEOF", "bufio.ErrBufferFull", "bufio.errNegativeRead", "io.ErrNoProgress", "io.EOF"], ifaces := true, apart := false, laid := [("io.EOF", laid_io_EOF), ("io.ErrUnexpectedEOF", laid_io_ErrUnexpectedEOF), ("io.ErrNoProgress", laid_io_ErrNoProgress), ("bufio.ErrBufferFull", laid_bufio_ErrBufferFull), ("bufio.errNegativeRead", laid_bufio_errNegativeRead), ("example.com/logtide/logtide/internal/resp.ErrProtocol", laid_example_com_logtide_logtide_internal_resp_ErrProtocol)] }
/-- NO THEOREM (fmt's text is open here; it may be false): for the released tool's asking of the row's closed facts alone. THE STATEMENT IS 'FnReadInlineNextRequestToldSaid' (Qxb6616016aFmtCards.lean). -/
def FnReadInlineNextRequestFormAsk : Prop := fnReadInlineNextRequestRow.holds Tryf.pinned (OpenSpec.ofChange fnReadInlineNextRequestSpec)

/-- ITS FALSE NEIGHBOUR: 'it returns false'. Refute it at one input. -/
def fnReadInlineNextRequestWrong : ChangeSpec := { name := "fnReadInlineNextRequest", vars := ["example.com/logtide/logtide/internal/resp.ErrProtocol"], fn := fun _ => fun
  | [d1, d2, g1] => { results := [.lit (.bool false)], args := [d1, d2], vars := [g1] }
  | _ => none }
def FnReadInlineNextRequestWrongFormAsk : Prop := fnReadInlineNextRequestRow.holds Tryf.pinned (OpenSpec.ofChange fnReadInlineNextRequestWrong)

/-- 'zzlaws_internal_resp_b1.FnCutRequestIsUnexpectedEOF': WHATEVER THE INPUT: true; the input reads as it did. -/
def fnCutRequestIsUnexpectedEOFSpec : ChangeSpec := { name := "fnCutRequestIsUnexpectedEOF", vars := ["example.com/logtide/logtide/internal/resp.ErrProtocol"], fn := fun _ => fun
  | [d, g1] => { results := [.lit (.bool true)], args := [d], vars := [g1] }
  | _ => none }
def fnCutRequestIsUnexpectedEOFRow : OpenClaim := { program := "qxb6616016afmt", sum := "cd8f4ad00c1cc71e9fd0fbac2776f9de13b8ed95b463701ca2bc7dd039f47f39", func := "example.com/logtide/logtide/zzlaws_internal_resp_b1.FnCutRequestIsUnexpectedEOF", spec := "fnCutRequestIsUnexpectedEOF", stops := ["fmt.errorf"], inPlace := ["internal/bytealg.IndexByte", "internal/reflectlite.TypeOf", "fmt.errorf"], unfollowed := true, recurses := true, named := ["example.com/logtide/logtide/internal/resp.ErrProtocol", "io.ErrUnexpectedEOF", "bufio.ErrBufferFull", "bufio.errNegativeRead", "io.ErrNoProgress", "io.EOF"], ifaces := true, apart := false, laid := [("io.EOF", laid_io_EOF), ("io.ErrUnexpectedEOF", laid_io_ErrUnexpectedEOF), ("io.ErrNoProgress", laid_io_ErrNoProgress), ("bufio.ErrBufferFull", laid_bufio_ErrBufferFull), ("bufio.errNegativeRead", laid_bufio_errNegativeRead), ("example.com/logtide/logtide/internal/resp.ErrProtocol", laid_example_com_logtide_logtide_internal_resp_ErrProtocol)] }
/-- NO THEOREM (fmt's text is open here; it may be false): for the released tool's asking of the row's closed facts alone. THE STATEMENT IS 'FnCutRequestIsUnexpectedEOFToldSaid' (Qxb6616016aFmtCards.lean). -/
def FnCutRequestIsUnexpectedEOFFormAsk : Prop := fnCutRequestIsUnexpectedEOFRow.holds Tryf.pinned (OpenSpec.ofChange fnCutRequestIsUnexpectedEOFSpec)

/-- ITS FALSE NEIGHBOUR: 'it returns false'. Refute it at one input. -/
def fnCutRequestIsUnexpectedEOFWrong : ChangeSpec := { name := "fnCutRequestIsUnexpectedEOF", vars := ["example.com/logtide/logtide/internal/resp.ErrProtocol"], fn := fun _ => fun
  | [d, g1] => { results := [.lit (.bool false)], args := [d], vars := [g1] }
  | _ => none }
def FnCutRequestIsUnexpectedEOFWrongFormAsk : Prop := fnCutRequestIsUnexpectedEOFRow.holds Tryf.pinned (OpenSpec.ofChange fnCutRequestIsUnexpectedEOFWrong)

end Rows
end Go.Proofs.Qxb6616016aFmt
