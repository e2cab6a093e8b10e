/-
  DERIVED. GIVEN WITH THE SEED: THE CARDS: each row of Qxb6616016aFmtRows.lean that lists a variable, with what it lists TIED to the program's text (the seventh form; the later family's looks); each row that meets fmt, with fmt's text TOLD by the authors' own Lean function (tested against real Go, not proved from fmt's source: count such statements apart). THE CARD IS WHAT COUNTS. Prove the row's statement (the work); the ties are given (Qxb6616016aFmtTie.lean); close each card by the builder's one call (the guide's Derived/Test/ToyasCard.lean, 'card_holds'). Laid BY PROGRAM, IN A SANDBOX (cutbox-door.mjs). By AI agents, Wed Nov 11 2026. No macro, syntax, notation, axiom, sorry.
-/
import Derived.Test.Qxb6616016aFmtRows
import GoSem.ClaimSeven
namespace Go.Proofs.Qxb6616016aFmt
namespace Rows

/-- THE TOLD AND TIED CARD OF 'zzlaws_internal_resp_b1.FnReadInlineWordPrefix'. -/
def fnReadInlineWordPrefixCard : Claim7 := { stood := { row := fnReadInlineWordPrefixRow, standIns := [], harness := (true, "7ff288864a66b52d444c9812c3448f317a83a433657eab5cf36bd0aea23d5849"), looks := true }, told := true, laidByText := true, laidKinds := [.sentinel, .sentinel, .sentinel, .sentinel, .sentinel, .sentinel], laidTests := true, laidLooks := .later, goes := false }
def FnReadInlineWordPrefixToldSaid : Prop := Claim7.holds Tryf.pinned (.plain (OpenSpec.ofChange fnReadInlineWordPrefixSpec)) fnReadInlineWordPrefixCard
/-- ITS FALSE NEIGHBOUR. Refute it at one input. -/
def FnReadInlineWordPrefixToldWrongFalsely : Prop := Claim7.holds Tryf.pinned (.plain (OpenSpec.ofChange fnReadInlineWordPrefixWrong)) fnReadInlineWordPrefixCard

/-- THE TOLD AND TIED CARD OF 'zzlaws_internal_resp_b1.FnReadInlineNextRequest'. -/
def fnReadInlineNextRequestCard : Claim7 := { stood := { row := fnReadInlineNextRequestRow, standIns := [], harness := (true, "7ff288864a66b52d444c9812c3448f317a83a433657eab5cf36bd0aea23d5849"), looks := true }, told := true, laidByText := true, laidKinds := [.sentinel, .sentinel, .sentinel, .sentinel, .sentinel, .sentinel], laidTests := true, laidLooks := .later, goes := false }
def FnReadInlineNextRequestToldSaid : Prop := Claim7.holds Tryf.pinned (.plain (OpenSpec.ofChange fnReadInlineNextRequestSpec)) fnReadInlineNextRequestCard
/-- ITS FALSE NEIGHBOUR. Refute it at one input. -/
def FnReadInlineNextRequestToldWrongFalsely : Prop := Claim7.holds Tryf.pinned (.plain (OpenSpec.ofChange fnReadInlineNextRequestWrong)) fnReadInlineNextRequestCard

/-- THE TOLD AND TIED CARD OF 'zzlaws_internal_resp_b1.FnCutRequestIsUnexpectedEOF'. -/
def fnCutRequestIsUnexpectedEOFCard : Claim7 := { stood := { row := fnCutRequestIsUnexpectedEOFRow, standIns := [], harness := (true, "7ff288864a66b52d444c9812c3448f317a83a433657eab5cf36bd0aea23d5849"), looks := true }, told := true, laidByText := true, laidKinds := [.sentinel, .sentinel, .sentinel, .sentinel, .sentinel, .sentinel], laidTests := true, laidLooks := .later, goes := false }
def FnCutRequestIsUnexpectedEOFToldSaid : Prop := Claim7.holds Tryf.pinned (.plain (OpenSpec.ofChange fnCutRequestIsUnexpectedEOFSpec)) fnCutRequestIsUnexpectedEOFCard
/-- ITS FALSE NEIGHBOUR. Refute it at one input. -/
def FnCutRequestIsUnexpectedEOFToldWrongFalsely : Prop := Claim7.holds Tryf.pinned (.plain (OpenSpec.ofChange fnCutRequestIsUnexpectedEOFWrong)) fnCutRequestIsUnexpectedEOFCard
end Rows
end Go.Proofs.Qxb6616016aFmt
