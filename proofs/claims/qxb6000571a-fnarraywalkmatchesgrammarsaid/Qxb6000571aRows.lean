/-
  No cell of these rows narrows 'for every input' (looked for: loops, veiled, ifaces, maps, wideKeys, modest, calm, conditions, laid).
  DERIVED. THE GIVEN ROWS OF THIS SEAT. 7 by the template 'for every input the law returns true; each argument reads behind the call as it read before'; 0 by the template 'total and deterministic' (their statements: Qxb6000571aTotals.lean).
  GIVEN WITH THE SEED: the statements are not yours to turn. If you find one false, say at which input.
  Laid BY PROGRAM, IN A SANDBOX (cutbox-rows.mjs): the forced cells as the released guide's own fill.sh prints them over the translation 6d0bc69ed5cf582b… (all of the seat's roots in one cut). By AI agents, Wed Nov 11 2026. No macro, syntax, notation, axiom, sorry.
-/
import Derived.Test.Qxb6000571aChecked
import GoSem.Claim
import GoSem.ClaimJoined
import GoSem.ClaimMapViews
import Derived.JoinedTies
import Derived.KernelRfl
namespace Go.Proofs.Qxb6000571a
/- THE CELL 'sum', in the pinned program and in every row, IS THE sha256 OF THE DUMP (.gsa) THAT Qxb6000571aProg.lean LOADS. Nothing in Lean hashes anything: it is a label: what it is worth is what the hold of that sum in a sandbox is worth. -/
noncomputable def Try.pinned : Pinned := { name := "qxb6000571a", sum := "6d0bc69ed5cf582bcd829ca4d43b196826dc34118f6118b14159aa738f99d236", checked := Try.checked }
namespace Rows
def none {H : Type} : Left H := { results := [], args := [] }

/-- 'zzlaws_internal_token_b1.FnStringEndFindsEncodedClose': WHATEVER THE INPUT: true; the input reads as it did. -/
def fnStringEndFindsEncodedCloseSpec : ChangeSpec := { name := "fnStringEndFindsEncodedClose", fn := fun _ => fun
  | [d1, d2, d3] => { results := [.lit (.bool true)], args := [d1, d2, d3] }
  | _ => none }
def fnStringEndFindsEncodedCloseRow : OpenClaim := { program := "qxb6000571a", sum := "6d0bc69ed5cf582bcd829ca4d43b196826dc34118f6118b14159aa738f99d236", func := "example.com/badge/badge/zzlaws_internal_token_b1.FnStringEndFindsEncodedClose", spec := "fnStringEndFindsEncodedClose", apart := false }
def FnStringEndFindsEncodedCloseSaid : Prop := fnStringEndFindsEncodedCloseRow.holds Try.pinned (OpenSpec.ofChange fnStringEndFindsEncodedCloseSpec)

/-- ITS FALSE NEIGHBOUR: 'it returns false'. Refute it at one input. -/
def fnStringEndFindsEncodedCloseWrong : ChangeSpec := { name := "fnStringEndFindsEncodedClose", fn := fun _ => fun
  | [d1, d2, d3] => { results := [.lit (.bool false)], args := [d1, d2, d3] }
  | _ => none }
def FnStringEndFindsEncodedCloseWrongFalsely : Prop := fnStringEndFindsEncodedCloseRow.holds Try.pinned (OpenSpec.ofChange fnStringEndFindsEncodedCloseWrong)

/-- 'zzlaws_internal_token_b1.FnStringEndEvenBackslashRun': WHATEVER THE INPUT: true; the input reads as it did. -/
def fnStringEndEvenBackslashRunSpec : ChangeSpec := { name := "fnStringEndEvenBackslashRun", fn := fun _ => fun
  | [d1, d2, d3] => { results := [.lit (.bool true)], args := [d1, d2, d3] }
  | _ => none }
def fnStringEndEvenBackslashRunRow : OpenClaim := { program := "qxb6000571a", sum := "6d0bc69ed5cf582bcd829ca4d43b196826dc34118f6118b14159aa738f99d236", func := "example.com/badge/badge/zzlaws_internal_token_b1.FnStringEndEvenBackslashRun", spec := "fnStringEndEvenBackslashRun", apart := false }
def FnStringEndEvenBackslashRunSaid : Prop := fnStringEndEvenBackslashRunRow.holds Try.pinned (OpenSpec.ofChange fnStringEndEvenBackslashRunSpec)

/-- ITS FALSE NEIGHBOUR: 'it returns false'. Refute it at one input. -/
def fnStringEndEvenBackslashRunWrong : ChangeSpec := { name := "fnStringEndEvenBackslashRun", fn := fun _ => fun
  | [d1, d2, d3] => { results := [.lit (.bool false)], args := [d1, d2, d3] }
  | _ => none }
def FnStringEndEvenBackslashRunWrongFalsely : Prop := fnStringEndEvenBackslashRunRow.holds Try.pinned (OpenSpec.ofChange fnStringEndEvenBackslashRunWrong)

/-- 'zzlaws_internal_token_b1.FnValueEndScalarToken': WHATEVER THE INPUT: true; the input reads as it did. -/
def fnValueEndScalarTokenSpec : ChangeSpec := { name := "fnValueEndScalarToken", fn := fun _ => fun
  | [d1, d2, d3] => { results := [.lit (.bool true)], args := [d1, d2, d3] }
  | _ => none }
def fnValueEndScalarTokenRow : OpenClaim := { program := "qxb6000571a", sum := "6d0bc69ed5cf582bcd829ca4d43b196826dc34118f6118b14159aa738f99d236", func := "example.com/badge/badge/zzlaws_internal_token_b1.FnValueEndScalarToken", spec := "fnValueEndScalarToken", apart := false }
def FnValueEndScalarTokenSaid : Prop := fnValueEndScalarTokenRow.holds Try.pinned (OpenSpec.ofChange fnValueEndScalarTokenSpec)

/-- ITS FALSE NEIGHBOUR: 'it returns false'. Refute it at one input. -/
def fnValueEndScalarTokenWrong : ChangeSpec := { name := "fnValueEndScalarToken", fn := fun _ => fun
  | [d1, d2, d3] => { results := [.lit (.bool false)], args := [d1, d2, d3] }
  | _ => none }
def FnValueEndScalarTokenWrongFalsely : Prop := fnValueEndScalarTokenRow.holds Try.pinned (OpenSpec.ofChange fnValueEndScalarTokenWrong)

/-- 'zzlaws_internal_token_b1.FnValueEndMatchesGrammar': WHATEVER THE INPUT: true; the input reads as it did. -/
def fnValueEndMatchesGrammarSpec : ChangeSpec := { name := "fnValueEndMatchesGrammar", fn := fun _ => fun
  | [d1, d2] => { results := [.lit (.bool true)], args := [d1, d2] }
  | _ => none }
def fnValueEndMatchesGrammarRow : OpenClaim := { program := "qxb6000571a", sum := "6d0bc69ed5cf582bcd829ca4d43b196826dc34118f6118b14159aa738f99d236", func := "example.com/badge/badge/zzlaws_internal_token_b1.FnValueEndMatchesGrammar", spec := "fnValueEndMatchesGrammar", recurses := true, apart := false }
def FnValueEndMatchesGrammarSaid : Prop := fnValueEndMatchesGrammarRow.holds Try.pinned (OpenSpec.ofChange fnValueEndMatchesGrammarSpec)

/-- ITS FALSE NEIGHBOUR: 'it returns false'. Refute it at one input. -/
def fnValueEndMatchesGrammarWrong : ChangeSpec := { name := "fnValueEndMatchesGrammar", fn := fun _ => fun
  | [d1, d2] => { results := [.lit (.bool false)], args := [d1, d2] }
  | _ => none }
def FnValueEndMatchesGrammarWrongFalsely : Prop := fnValueEndMatchesGrammarRow.holds Try.pinned (OpenSpec.ofChange fnValueEndMatchesGrammarWrong)

/-- 'zzlaws_internal_token_b1.FnArrayWalkMatchesGrammar': WHATEVER THE INPUT: true; the input reads as it did. -/
def fnArrayWalkMatchesGrammarSpec : ChangeSpec := { name := "fnArrayWalkMatchesGrammar", fn := fun _ => fun
  | [d] => { results := [.lit (.bool true)], args := [d] }
  | _ => none }
def fnArrayWalkMatchesGrammarRow : OpenClaim := { program := "qxb6000571a", sum := "6d0bc69ed5cf582bcd829ca4d43b196826dc34118f6118b14159aa738f99d236", func := "example.com/badge/badge/zzlaws_internal_token_b1.FnArrayWalkMatchesGrammar", spec := "fnArrayWalkMatchesGrammar", recurses := true, apart := false }
def FnArrayWalkMatchesGrammarSaid : Prop := fnArrayWalkMatchesGrammarRow.holds Try.pinned (OpenSpec.ofChange fnArrayWalkMatchesGrammarSpec)

/-- ITS FALSE NEIGHBOUR: 'it returns false'. Refute it at one input. -/
def fnArrayWalkMatchesGrammarWrong : ChangeSpec := { name := "fnArrayWalkMatchesGrammar", fn := fun _ => fun
  | [d] => { results := [.lit (.bool false)], args := [d] }
  | _ => none }
def FnArrayWalkMatchesGrammarWrongFalsely : Prop := fnArrayWalkMatchesGrammarRow.holds Try.pinned (OpenSpec.ofChange fnArrayWalkMatchesGrammarWrong)

/-- 'zzlaws_internal_token_b1.FnSkipSpaceStopsAtFirstNonSpace': WHATEVER THE INPUT: true; the input reads as it did. -/
def fnSkipSpaceStopsAtFirstNonSpaceSpec : ChangeSpec := { name := "fnSkipSpaceStopsAtFirstNonSpace", fn := fun _ => fun
  | [d1, d2] => { results := [.lit (.bool true)], args := [d1, d2] }
  | _ => none }
def fnSkipSpaceStopsAtFirstNonSpaceRow : OpenClaim := { program := "qxb6000571a", sum := "6d0bc69ed5cf582bcd829ca4d43b196826dc34118f6118b14159aa738f99d236", func := "example.com/badge/badge/zzlaws_internal_token_b1.FnSkipSpaceStopsAtFirstNonSpace", spec := "fnSkipSpaceStopsAtFirstNonSpace", apart := false }
def FnSkipSpaceStopsAtFirstNonSpaceSaid : Prop := fnSkipSpaceStopsAtFirstNonSpaceRow.holds Try.pinned (OpenSpec.ofChange fnSkipSpaceStopsAtFirstNonSpaceSpec)

/-- ITS FALSE NEIGHBOUR: 'it returns false'. Refute it at one input. -/
def fnSkipSpaceStopsAtFirstNonSpaceWrong : ChangeSpec := { name := "fnSkipSpaceStopsAtFirstNonSpace", fn := fun _ => fun
  | [d1, d2] => { results := [.lit (.bool false)], args := [d1, d2] }
  | _ => none }
def FnSkipSpaceStopsAtFirstNonSpaceWrongFalsely : Prop := fnSkipSpaceStopsAtFirstNonSpaceRow.holds Try.pinned (OpenSpec.ofChange fnSkipSpaceStopsAtFirstNonSpaceWrong)

/-- 'zzlaws_internal_token_b1.FnSkipSpaceIdempotentAndConfluent': WHATEVER THE INPUT: true; the input reads as it did. -/
def fnSkipSpaceIdempotentAndConfluentSpec : ChangeSpec := { name := "fnSkipSpaceIdempotentAndConfluent", fn := fun _ => fun
  | [d1, d2, d3] => { results := [.lit (.bool true)], args := [d1, d2, d3] }
  | _ => none }
def fnSkipSpaceIdempotentAndConfluentRow : OpenClaim := { program := "qxb6000571a", sum := "6d0bc69ed5cf582bcd829ca4d43b196826dc34118f6118b14159aa738f99d236", func := "example.com/badge/badge/zzlaws_internal_token_b1.FnSkipSpaceIdempotentAndConfluent", spec := "fnSkipSpaceIdempotentAndConfluent", apart := false }
def FnSkipSpaceIdempotentAndConfluentSaid : Prop := fnSkipSpaceIdempotentAndConfluentRow.holds Try.pinned (OpenSpec.ofChange fnSkipSpaceIdempotentAndConfluentSpec)

/-- ITS FALSE NEIGHBOUR: 'it returns false'. Refute it at one input. -/
def fnSkipSpaceIdempotentAndConfluentWrong : ChangeSpec := { name := "fnSkipSpaceIdempotentAndConfluent", fn := fun _ => fun
  | [d1, d2, d3] => { results := [.lit (.bool false)], args := [d1, d2, d3] }
  | _ => none }
def FnSkipSpaceIdempotentAndConfluentWrongFalsely : Prop := fnSkipSpaceIdempotentAndConfluentRow.holds Try.pinned (OpenSpec.ofChange fnSkipSpaceIdempotentAndConfluentWrong)

end Rows
end Go.Proofs.Qxb6000571a
