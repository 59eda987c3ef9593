/-
  No cell of these rows narrows 'for every input' (looked for: loops, veiled, ifaces, maps, wideKeys, modest, calm, conditions, laid).
  DERIVED. THE GIVEN ROWS OF THIS SEAT. 3 by the template 'for every input the law returns true; each argument reads behind the call as it read before'; 0 by the template 'total and deterministic' (their statements: Qxb6603971aTotals.lean).
  GIVEN WITH THE SEED: the statements are not yours to turn. If you find one false, say at which input.
  Laid BY PROGRAM, IN A SANDBOX (cutbox-rows.mjs): the forced cells as the released guide's own fill.sh prints them over the translation 9e00acf5804186a5… (all of the seat's roots in one cut). By AI agents, Wed Nov 11 2026. No macro, syntax, notation, axiom, sorry.
-/
import Derived.Test.Qxb6603971aChecked
import GoSem.Claim
import GoSem.ClaimJoined
import GoSem.ClaimMapViews
import Derived.JoinedTies
import Derived.KernelRfl
namespace Go.Proofs.Qxb6603971a
/- THE CELL 'sum', in the pinned program and in every row, IS THE sha256 OF THE DUMP (.gsa) THAT Qxb6603971aProg.lean LOADS. Nothing in Lean hashes anything: it is a label: what it is worth is what the hold of that sum in a sandbox is worth. -/
noncomputable def Try.pinned : Pinned := { name := "qxb6603971a", sum := "9e00acf5804186a57e0cd8bf6c27b53fce17bdf712201555f3c0251a879819f0", checked := Try.checked }
namespace Rows
def none {H : Type} : Left H := { results := [], args := [] }

/-- 'zzlaws_members_b1.FnStringEndIsTheFirstQuoteAfterAnEvenRunOfBackslashes': WHATEVER THE INPUT: true; the input reads as it did. -/
def fnStringEndIsTheFirstQuoteAfterAnEvenRunOfBackslashesSpec : ChangeSpec := { name := "fnStringEndIsTheFirstQuoteAfterAnEvenRunOfBackslashes", fn := fun _ => fun
  | [d1, d2] => { results := [.lit (.bool true)], args := [d1, d2] }
  | _ => none }
def fnStringEndIsTheFirstQuoteAfterAnEvenRunOfBackslashesRow : OpenClaim := { program := "qxb6603971a", sum := "9e00acf5804186a57e0cd8bf6c27b53fce17bdf712201555f3c0251a879819f0", func := "example.com/ask-to-act/ask-to-act/zzlaws_members_b1.FnStringEndIsTheFirstQuoteAfterAnEvenRunOfBackslashes", spec := "fnStringEndIsTheFirstQuoteAfterAnEvenRunOfBackslashes", apart := false }
def FnStringEndIsTheFirstQuoteAfterAnEvenRunOfBackslashesSaid : Prop := fnStringEndIsTheFirstQuoteAfterAnEvenRunOfBackslashesRow.holds Try.pinned (OpenSpec.ofChange fnStringEndIsTheFirstQuoteAfterAnEvenRunOfBackslashesSpec)

/-- ITS FALSE NEIGHBOUR: 'it returns false'. Refute it at one input. -/
def fnStringEndIsTheFirstQuoteAfterAnEvenRunOfBackslashesWrong : ChangeSpec := { name := "fnStringEndIsTheFirstQuoteAfterAnEvenRunOfBackslashes", fn := fun _ => fun
  | [d1, d2] => { results := [.lit (.bool false)], args := [d1, d2] }
  | _ => none }
def FnStringEndIsTheFirstQuoteAfterAnEvenRunOfBackslashesWrongFalsely : Prop := fnStringEndIsTheFirstQuoteAfterAnEvenRunOfBackslashesRow.holds Try.pinned (OpenSpec.ofChange fnStringEndIsTheFirstQuoteAfterAnEvenRunOfBackslashesWrong)

/-- 'zzlaws_members_b1.FnStringEndFindsTheEndOfEveryEncodedString': WHATEVER THE INPUT: true; the input reads as it did. -/
def fnStringEndFindsTheEndOfEveryEncodedStringSpec : ChangeSpec := { name := "fnStringEndFindsTheEndOfEveryEncodedString", fn := fun _ => fun
  | [d1, d2, d3] => { results := [.lit (.bool true)], args := [d1, d2, d3] }
  | _ => none }
def fnStringEndFindsTheEndOfEveryEncodedStringRow : OpenClaim := { program := "qxb6603971a", sum := "9e00acf5804186a57e0cd8bf6c27b53fce17bdf712201555f3c0251a879819f0", func := "example.com/ask-to-act/ask-to-act/zzlaws_members_b1.FnStringEndFindsTheEndOfEveryEncodedString", spec := "fnStringEndFindsTheEndOfEveryEncodedString", apart := false }
def FnStringEndFindsTheEndOfEveryEncodedStringSaid : Prop := fnStringEndFindsTheEndOfEveryEncodedStringRow.holds Try.pinned (OpenSpec.ofChange fnStringEndFindsTheEndOfEveryEncodedStringSpec)

/-- ITS FALSE NEIGHBOUR: 'it returns false'. Refute it at one input. -/
def fnStringEndFindsTheEndOfEveryEncodedStringWrong : ChangeSpec := { name := "fnStringEndFindsTheEndOfEveryEncodedString", fn := fun _ => fun
  | [d1, d2, d3] => { results := [.lit (.bool false)], args := [d1, d2, d3] }
  | _ => none }
def FnStringEndFindsTheEndOfEveryEncodedStringWrongFalsely : Prop := fnStringEndFindsTheEndOfEveryEncodedStringRow.holds Try.pinned (OpenSpec.ofChange fnStringEndFindsTheEndOfEveryEncodedStringWrong)

/-- 'zzlaws_members_b1.FnSkipEndsEveryJSONValueWhereItsGrammarEnds': WHATEVER THE INPUT: true; the input reads as it did. -/
def fnSkipEndsEveryJSONValueWhereItsGrammarEndsSpec : ChangeSpec := { name := "fnSkipEndsEveryJSONValueWhereItsGrammarEnds", fn := fun _ => fun
  | [d1, d2] => { results := [.lit (.bool true)], args := [d1, d2] }
  | _ => none }
def fnSkipEndsEveryJSONValueWhereItsGrammarEndsRow : OpenClaim := { program := "qxb6603971a", sum := "9e00acf5804186a57e0cd8bf6c27b53fce17bdf712201555f3c0251a879819f0", func := "example.com/ask-to-act/ask-to-act/zzlaws_members_b1.FnSkipEndsEveryJSONValueWhereItsGrammarEnds", spec := "fnSkipEndsEveryJSONValueWhereItsGrammarEnds", inPlace := ["internal/bytealg.IndexByteString"], recurses := true, apart := false }
def FnSkipEndsEveryJSONValueWhereItsGrammarEndsSaid : Prop := fnSkipEndsEveryJSONValueWhereItsGrammarEndsRow.holds Try.pinned (OpenSpec.ofChange fnSkipEndsEveryJSONValueWhereItsGrammarEndsSpec)

/-- ITS FALSE NEIGHBOUR: 'it returns false'. Refute it at one input. -/
def fnSkipEndsEveryJSONValueWhereItsGrammarEndsWrong : ChangeSpec := { name := "fnSkipEndsEveryJSONValueWhereItsGrammarEnds", fn := fun _ => fun
  | [d1, d2] => { results := [.lit (.bool false)], args := [d1, d2] }
  | _ => none }
def FnSkipEndsEveryJSONValueWhereItsGrammarEndsWrongFalsely : Prop := fnSkipEndsEveryJSONValueWhereItsGrammarEndsRow.holds Try.pinned (OpenSpec.ofChange fnSkipEndsEveryJSONValueWhereItsGrammarEndsWrong)

end Rows
end Go.Proofs.Qxb6603971a
