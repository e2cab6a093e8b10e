/-
  No cell of these rows narrows 'for every input' (looked for: loops, veiled, ifaces, maps, wideKeys, modest, calm, conditions, laid).
  DERIVED. THE GIVEN ROWS OF THIS SEAT. 2 by the template 'for every input the law returns true; each argument reads behind the call as it read before'; 0 by the template 'total and deterministic' (their statements: Qxb6616715aTotals.lean).
  GIVEN WITH THE SEED: the statements are not yours to turn. If you find one false, say at which input.
  Laid BY PROGRAM, IN A SANDBOX (cutbox-rows.mjs): the forced cells as the released guide's own fill.sh prints them over the translation c6b84c9b554aee18… (all of the seat's roots in one cut). By AI agents, Wed Nov 11 2026. No macro, syntax, notation, axiom, sorry.
-/
import Derived.Test.Qxb6616715aChecked
import GoSem.Claim
import GoSem.ClaimJoined
import GoSem.ClaimMapViews
import Derived.JoinedTies
import Derived.KernelRfl
namespace Go.Proofs.Qxb6616715a
/- THE CELL 'sum', in the pinned program and in every row, IS THE sha256 OF THE DUMP (.gsa) THAT Qxb6616715aProg.lean LOADS. Nothing in Lean hashes anything: it is a label: what it is worth is what the hold of that sum in a sandbox is worth. -/
noncomputable def Try.pinned : Pinned := { name := "qxb6616715a", sum := "c6b84c9b554aee18eaeb32d052b3048342fdab422861ca1742d38dd6e15ed9c8", checked := Try.checked }
namespace Rows
def none {H : Type} : Left H := { results := [], args := [] }

/-- 'zzlaws_schedule_b1.FnSwapScriptReversesNodes': WHATEVER THE INPUT: true; the input reads as it did. -/
def fnSwapScriptReversesNodesSpec : ChangeSpec := { name := "fnSwapScriptReversesNodes", fn := fun _ => fun
  | [d1, d2] => { results := [.lit (.bool true)], args := [d1, d2] }
  | _ => none }
def fnSwapScriptReversesNodesRow : OpenClaim := { program := "qxb6616715a", sum := "c6b84c9b554aee18eaeb32d052b3048342fdab422861ca1742d38dd6e15ed9c8", func := "example.com/ledgerlock/ledgerlock/zzlaws_schedule_b1.FnSwapScriptReversesNodes", spec := "fnSwapScriptReversesNodes", apart := false }
def FnSwapScriptReversesNodesSaid : Prop := fnSwapScriptReversesNodesRow.holds Try.pinned (OpenSpec.ofChange fnSwapScriptReversesNodesSpec)

/-- ITS FALSE NEIGHBOUR: 'it returns false'. Refute it at one input. -/
def fnSwapScriptReversesNodesWrong : ChangeSpec := { name := "fnSwapScriptReversesNodes", fn := fun _ => fun
  | [d1, d2] => { results := [.lit (.bool false)], args := [d1, d2] }
  | _ => none }
def FnSwapScriptReversesNodesWrongFalsely : Prop := fnSwapScriptReversesNodesRow.holds Try.pinned (OpenSpec.ofChange fnSwapScriptReversesNodesWrong)

/-- 'zzlaws_schedule_b1.FnIsKeyByteCaseAndHighBit': WHATEVER THE INPUT: true; the input reads as it did. -/
def fnIsKeyByteCaseAndHighBitSpec : ChangeSpec := { name := "fnIsKeyByteCaseAndHighBit", fn := fun _ => fun
  | [d] => { results := [.lit (.bool true)], args := [d] }
  | _ => none }
def fnIsKeyByteCaseAndHighBitRow : OpenClaim := { program := "qxb6616715a", sum := "c6b84c9b554aee18eaeb32d052b3048342fdab422861ca1742d38dd6e15ed9c8", func := "example.com/ledgerlock/ledgerlock/zzlaws_schedule_b1.FnIsKeyByteCaseAndHighBit", spec := "fnIsKeyByteCaseAndHighBit", inPlace := ["internal/bytealg.IndexByteString"], apart := false }
def FnIsKeyByteCaseAndHighBitSaid : Prop := fnIsKeyByteCaseAndHighBitRow.holds Try.pinned (OpenSpec.ofChange fnIsKeyByteCaseAndHighBitSpec)

/-- ITS FALSE NEIGHBOUR: 'it returns false'. Refute it at one input. -/
def fnIsKeyByteCaseAndHighBitWrong : ChangeSpec := { name := "fnIsKeyByteCaseAndHighBit", fn := fun _ => fun
  | [d] => { results := [.lit (.bool false)], args := [d] }
  | _ => none }
def FnIsKeyByteCaseAndHighBitWrongFalsely : Prop := fnIsKeyByteCaseAndHighBitRow.holds Try.pinned (OpenSpec.ofChange fnIsKeyByteCaseAndHighBitWrong)

end Rows
end Go.Proofs.Qxb6616715a
