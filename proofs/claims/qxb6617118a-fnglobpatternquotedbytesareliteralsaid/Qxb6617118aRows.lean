/-
  No cell of these rows narrows 'for every input' (looked for: loops, veiled, ifaces, maps, wideKeys, modest, calm, conditions, laid).
  DERIVED. THE GIVEN ROWS OF THIS SEAT. 4 by the template 'for every input the law returns true; each argument reads behind the call as it read before'; 0 by the template 'total and deterministic' (their statements: Qxb6617118aTotals.lean).
  GIVEN WITH THE SEED: the statements are not yours to turn. If you find one false, say at which input.
  Laid BY PROGRAM, IN A SANDBOX (cutbox-rows.mjs): the forced cells as the released guide's own fill.sh prints them over the translation ce337c346483d377… (all of the seat's roots in one cut). By AI agents, Wed Nov 11 2026. No macro, syntax, notation, axiom, sorry.
-/
import Derived.Test.Qxb6617118aChecked
import GoSem.Claim
import GoSem.ClaimJoined
import GoSem.ClaimMapViews
import Derived.JoinedTies
import Derived.KernelRfl
namespace Go.Proofs.Qxb6617118a
/- THE CELL 'sum', in the pinned program and in every row, IS THE sha256 OF THE DUMP (.gsa) THAT Qxb6617118aProg.lean LOADS. Nothing in Lean hashes anything: it is a label: what it is worth is what the hold of that sum in a sandbox is worth. -/
noncomputable def Try.pinned : Pinned := { name := "qxb6617118a", sum := "ce337c346483d37745575554d9ea374f53ddb145a0aa15b2a22abf73dc5cd7cb", checked := Try.checked }
namespace Rows
def none {H : Type} : Left H := { results := [], args := [] }

/-- 'zzlaws_root_b1.FnEscapeGlobUnescapesExactly': WHATEVER THE INPUT: true; the input reads as it did. -/
def fnEscapeGlobUnescapesExactlySpec : ChangeSpec := { name := "fnEscapeGlobUnescapesExactly", fn := fun _ => fun
  | [d] => { results := [.lit (.bool true)], args := [d] }
  | _ => none }
def fnEscapeGlobUnescapesExactlyRow : OpenClaim := { program := "qxb6617118a", sum := "ce337c346483d37745575554d9ea374f53ddb145a0aa15b2a22abf73dc5cd7cb", func := "example.com/portcullis/portcullis/zzlaws_root_b1.FnEscapeGlobUnescapesExactly", spec := "fnEscapeGlobUnescapesExactly", inPlace := ["internal/bytealg.IndexByteString", "internal/abi.NoEscape", "internal/bytealg.MakeNoZero", "internal/bytealg.IndexString"], named := ["internal/bytealg.MaxLen"], apart := false }
def FnEscapeGlobUnescapesExactlySaid : Prop := fnEscapeGlobUnescapesExactlyRow.holds Try.pinned (OpenSpec.ofChange fnEscapeGlobUnescapesExactlySpec)

/-- ITS FALSE NEIGHBOUR: 'it returns false'. Refute it at one input. -/
def fnEscapeGlobUnescapesExactlyWrong : ChangeSpec := { name := "fnEscapeGlobUnescapesExactly", fn := fun _ => fun
  | [d] => { results := [.lit (.bool false)], args := [d] }
  | _ => none }
def FnEscapeGlobUnescapesExactlyWrongFalsely : Prop := fnEscapeGlobUnescapesExactlyRow.holds Try.pinned (OpenSpec.ofChange fnEscapeGlobUnescapesExactlyWrong)

/-- 'zzlaws_root_b1.FnEscapeGlobSplitsAtAnyCut': WHATEVER THE INPUT: true; the input reads as it did. -/
def fnEscapeGlobSplitsAtAnyCutSpec : ChangeSpec := { name := "fnEscapeGlobSplitsAtAnyCut", fn := fun _ => fun
  | [d1, d2] => { results := [.lit (.bool true)], args := [d1, d2] }
  | _ => none }
def fnEscapeGlobSplitsAtAnyCutRow : OpenClaim := { program := "qxb6617118a", sum := "ce337c346483d37745575554d9ea374f53ddb145a0aa15b2a22abf73dc5cd7cb", func := "example.com/portcullis/portcullis/zzlaws_root_b1.FnEscapeGlobSplitsAtAnyCut", spec := "fnEscapeGlobSplitsAtAnyCut", inPlace := ["internal/bytealg.IndexByteString", "internal/abi.NoEscape", "internal/bytealg.MakeNoZero", "internal/bytealg.IndexString"], named := ["internal/bytealg.MaxLen"], apart := false }
def FnEscapeGlobSplitsAtAnyCutSaid : Prop := fnEscapeGlobSplitsAtAnyCutRow.holds Try.pinned (OpenSpec.ofChange fnEscapeGlobSplitsAtAnyCutSpec)

/-- ITS FALSE NEIGHBOUR: 'it returns false'. Refute it at one input. -/
def fnEscapeGlobSplitsAtAnyCutWrong : ChangeSpec := { name := "fnEscapeGlobSplitsAtAnyCut", fn := fun _ => fun
  | [d1, d2] => { results := [.lit (.bool false)], args := [d1, d2] }
  | _ => none }
def FnEscapeGlobSplitsAtAnyCutWrongFalsely : Prop := fnEscapeGlobSplitsAtAnyCutRow.holds Try.pinned (OpenSpec.ofChange fnEscapeGlobSplitsAtAnyCutWrong)

/-- 'zzlaws_root_b1.FnGlobPatternReadsBackslashRuns': WHATEVER THE INPUT: true; the input reads as it did. -/
def fnGlobPatternReadsBackslashRunsSpec : ChangeSpec := { name := "fnGlobPatternReadsBackslashRuns", fn := fun _ => fun
  | [d] => { results := [.lit (.bool true)], args := [d] }
  | _ => none }
def fnGlobPatternReadsBackslashRunsRow : OpenClaim := { program := "qxb6617118a", sum := "ce337c346483d37745575554d9ea374f53ddb145a0aa15b2a22abf73dc5cd7cb", func := "example.com/portcullis/portcullis/zzlaws_root_b1.FnGlobPatternReadsBackslashRuns", spec := "fnGlobPatternReadsBackslashRuns", inPlace := ["internal/bytealg.IndexByteString", "internal/bytealg.IndexString", "internal/abi.NoEscape"], named := ["internal/bytealg.MaxLen"], apart := false }
def FnGlobPatternReadsBackslashRunsSaid : Prop := fnGlobPatternReadsBackslashRunsRow.holds Try.pinned (OpenSpec.ofChange fnGlobPatternReadsBackslashRunsSpec)

/-- ITS FALSE NEIGHBOUR: 'it returns false'. Refute it at one input. -/
def fnGlobPatternReadsBackslashRunsWrong : ChangeSpec := { name := "fnGlobPatternReadsBackslashRuns", fn := fun _ => fun
  | [d] => { results := [.lit (.bool false)], args := [d] }
  | _ => none }
def FnGlobPatternReadsBackslashRunsWrongFalsely : Prop := fnGlobPatternReadsBackslashRunsRow.holds Try.pinned (OpenSpec.ofChange fnGlobPatternReadsBackslashRunsWrong)

/-- 'zzlaws_root_b1.FnGlobPatternQuotedBytesAreLiteral': WHATEVER THE INPUT: true; the input reads as it did. -/
def fnGlobPatternQuotedBytesAreLiteralSpec : ChangeSpec := { name := "fnGlobPatternQuotedBytesAreLiteral", fn := fun _ => fun
  | [d] => { results := [.lit (.bool true)], args := [d] }
  | _ => none }
def fnGlobPatternQuotedBytesAreLiteralRow : OpenClaim := { program := "qxb6617118a", sum := "ce337c346483d37745575554d9ea374f53ddb145a0aa15b2a22abf73dc5cd7cb", func := "example.com/portcullis/portcullis/zzlaws_root_b1.FnGlobPatternQuotedBytesAreLiteral", spec := "fnGlobPatternQuotedBytesAreLiteral", inPlace := ["internal/bytealg.IndexByteString", "internal/bytealg.IndexString", "internal/abi.NoEscape", "internal/bytealg.MakeNoZero"], named := ["internal/bytealg.MaxLen"], apart := false }
def FnGlobPatternQuotedBytesAreLiteralSaid : Prop := fnGlobPatternQuotedBytesAreLiteralRow.holds Try.pinned (OpenSpec.ofChange fnGlobPatternQuotedBytesAreLiteralSpec)

/-- ITS FALSE NEIGHBOUR: 'it returns false'. Refute it at one input. -/
def fnGlobPatternQuotedBytesAreLiteralWrong : ChangeSpec := { name := "fnGlobPatternQuotedBytesAreLiteral", fn := fun _ => fun
  | [d] => { results := [.lit (.bool false)], args := [d] }
  | _ => none }
def FnGlobPatternQuotedBytesAreLiteralWrongFalsely : Prop := fnGlobPatternQuotedBytesAreLiteralRow.holds Try.pinned (OpenSpec.ofChange fnGlobPatternQuotedBytesAreLiteralWrong)

end Rows
end Go.Proofs.Qxb6617118a
