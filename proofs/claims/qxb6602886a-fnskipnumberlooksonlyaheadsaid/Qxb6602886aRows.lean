/-
  No cell of these rows narrows 'for every input' (looked for: loops, veiled, ifaces, maps, wideKeys, modest, calm, conditions, laid).
  DERIVED. THE GIVEN ROWS OF THIS SEAT. 6 by the template 'for every input the law returns true; each argument reads behind the call as it read before'; 0 by the template 'total and deterministic' (their statements: Qxb6602886aTotals.lean).
  GIVEN WITH THE SEED: the statements are not yours to turn. If you find one false, say at which input.
  Laid BY PROGRAM, IN A SANDBOX (cutbox-rows.mjs): the forced cells as the released guide's own fill.sh prints them over the translation 49e40aa3bc02cfba… (all of the seat's roots in one cut). By AI agents, Wed Nov 11 2026. No macro, syntax, notation, axiom, sorry.
-/
import Derived.Test.Qxb6602886aChecked
import GoSem.Claim
import GoSem.ClaimJoined
import GoSem.ClaimMapViews
import Derived.JoinedTies
import Derived.KernelRfl
namespace Go.Proofs.Qxb6602886a
/- THE CELL 'sum', in the pinned program and in every row, IS THE sha256 OF THE DUMP (.gsa) THAT Qxb6602886aProg.lean LOADS. Nothing in Lean hashes anything: it is a label: what it is worth is what the hold of that sum in a sandbox is worth. -/
noncomputable def Try.pinned : Pinned := { name := "qxb6602886a", sum := "49e40aa3bc02cfbaa8b8c00bb957dc77911af1341dcfa8b3c6d1b5e04ea7c5c6", checked := Try.checked }
namespace Rows
def none {H : Type} : Left H := { results := [], args := [] }

/-- 'zzlaws_api_b1.FnHex4MatchesRightToLeftModel': WHATEVER THE INPUT: true; the input reads as it did. -/
def fnHex4MatchesRightToLeftModelSpec : ChangeSpec := { name := "fnHex4MatchesRightToLeftModel", fn := fun _ => fun
  | [d] => { results := [.lit (.bool true)], args := [d] }
  | _ => none }
def fnHex4MatchesRightToLeftModelRow : OpenClaim := { program := "qxb6602886a", sum := "49e40aa3bc02cfbaa8b8c00bb957dc77911af1341dcfa8b3c6d1b5e04ea7c5c6", func := "example.com/wakeline/wakeline/zzlaws_api_b1.FnHex4MatchesRightToLeftModel", spec := "fnHex4MatchesRightToLeftModel", apart := false }
def FnHex4MatchesRightToLeftModelSaid : Prop := fnHex4MatchesRightToLeftModelRow.holds Try.pinned (OpenSpec.ofChange fnHex4MatchesRightToLeftModelSpec)

/-- ITS FALSE NEIGHBOUR: 'it returns false'. Refute it at one input. -/
def fnHex4MatchesRightToLeftModelWrong : ChangeSpec := { name := "fnHex4MatchesRightToLeftModel", fn := fun _ => fun
  | [d] => { results := [.lit (.bool false)], args := [d] }
  | _ => none }
def FnHex4MatchesRightToLeftModelWrongFalsely : Prop := fnHex4MatchesRightToLeftModelRow.holds Try.pinned (OpenSpec.ofChange fnHex4MatchesRightToLeftModelWrong)

/-- 'zzlaws_api_b1.FnHex4ReadsBackEveryFourDigitSpelling': WHATEVER THE INPUT: true; the input reads as it did. -/
def fnHex4ReadsBackEveryFourDigitSpellingSpec : ChangeSpec := { name := "fnHex4ReadsBackEveryFourDigitSpelling", fn := fun _ => fun
  | [d1, d2] => { results := [.lit (.bool true)], args := [d1, d2] }
  | _ => none }
def fnHex4ReadsBackEveryFourDigitSpellingRow : OpenClaim := { program := "qxb6602886a", sum := "49e40aa3bc02cfbaa8b8c00bb957dc77911af1341dcfa8b3c6d1b5e04ea7c5c6", func := "example.com/wakeline/wakeline/zzlaws_api_b1.FnHex4ReadsBackEveryFourDigitSpelling", spec := "fnHex4ReadsBackEveryFourDigitSpelling", apart := false }
def FnHex4ReadsBackEveryFourDigitSpellingSaid : Prop := fnHex4ReadsBackEveryFourDigitSpellingRow.holds Try.pinned (OpenSpec.ofChange fnHex4ReadsBackEveryFourDigitSpellingSpec)

/-- ITS FALSE NEIGHBOUR: 'it returns false'. Refute it at one input. -/
def fnHex4ReadsBackEveryFourDigitSpellingWrong : ChangeSpec := { name := "fnHex4ReadsBackEveryFourDigitSpelling", fn := fun _ => fun
  | [d1, d2] => { results := [.lit (.bool false)], args := [d1, d2] }
  | _ => none }
def FnHex4ReadsBackEveryFourDigitSpellingWrongFalsely : Prop := fnHex4ReadsBackEveryFourDigitSpellingRow.holds Try.pinned (OpenSpec.ofChange fnHex4ReadsBackEveryFourDigitSpellingWrong)

/-- 'zzlaws_api_b1.FnIsPlainMicroTimeAcceptsEveryComponentSpelling': WHATEVER THE INPUT: true; the input reads as it did. -/
def fnIsPlainMicroTimeAcceptsEveryComponentSpellingSpec : ChangeSpec := { name := "fnIsPlainMicroTimeAcceptsEveryComponentSpelling", fn := fun _ => fun
  | [d1, d2, d3, d4, d5, d6, d7] => { results := [.lit (.bool true)], args := [d1, d2, d3, d4, d5, d6, d7] }
  | _ => none }
def fnIsPlainMicroTimeAcceptsEveryComponentSpellingRow : OpenClaim := { program := "qxb6602886a", sum := "49e40aa3bc02cfbaa8b8c00bb957dc77911af1341dcfa8b3c6d1b5e04ea7c5c6", func := "example.com/wakeline/wakeline/zzlaws_api_b1.FnIsPlainMicroTimeAcceptsEveryComponentSpelling", spec := "fnIsPlainMicroTimeAcceptsEveryComponentSpelling", apart := false }
def FnIsPlainMicroTimeAcceptsEveryComponentSpellingSaid : Prop := fnIsPlainMicroTimeAcceptsEveryComponentSpellingRow.holds Try.pinned (OpenSpec.ofChange fnIsPlainMicroTimeAcceptsEveryComponentSpellingSpec)

/-- ITS FALSE NEIGHBOUR: 'it returns false'. Refute it at one input. -/
def fnIsPlainMicroTimeAcceptsEveryComponentSpellingWrong : ChangeSpec := { name := "fnIsPlainMicroTimeAcceptsEveryComponentSpelling", fn := fun _ => fun
  | [d1, d2, d3, d4, d5, d6, d7] => { results := [.lit (.bool false)], args := [d1, d2, d3, d4, d5, d6, d7] }
  | _ => none }
def FnIsPlainMicroTimeAcceptsEveryComponentSpellingWrongFalsely : Prop := fnIsPlainMicroTimeAcceptsEveryComponentSpellingRow.holds Try.pinned (OpenSpec.ofChange fnIsPlainMicroTimeAcceptsEveryComponentSpellingWrong)

/-- 'zzlaws_api_b1.FnIsPlainMicroTimeOneByteChange': WHATEVER THE INPUT: true; the input reads as it did. -/
def fnIsPlainMicroTimeOneByteChangeSpec : ChangeSpec := { name := "fnIsPlainMicroTimeOneByteChange", fn := fun _ => fun
  | [d1, d2, d3] => { results := [.lit (.bool true)], args := [d1, d2, d3] }
  | _ => none }
def fnIsPlainMicroTimeOneByteChangeRow : OpenClaim := { program := "qxb6602886a", sum := "49e40aa3bc02cfbaa8b8c00bb957dc77911af1341dcfa8b3c6d1b5e04ea7c5c6", func := "example.com/wakeline/wakeline/zzlaws_api_b1.FnIsPlainMicroTimeOneByteChange", spec := "fnIsPlainMicroTimeOneByteChange", apart := false }
def FnIsPlainMicroTimeOneByteChangeSaid : Prop := fnIsPlainMicroTimeOneByteChangeRow.holds Try.pinned (OpenSpec.ofChange fnIsPlainMicroTimeOneByteChangeSpec)

/-- ITS FALSE NEIGHBOUR: 'it returns false'. Refute it at one input. -/
def fnIsPlainMicroTimeOneByteChangeWrong : ChangeSpec := { name := "fnIsPlainMicroTimeOneByteChange", fn := fun _ => fun
  | [d1, d2, d3] => { results := [.lit (.bool false)], args := [d1, d2, d3] }
  | _ => none }
def FnIsPlainMicroTimeOneByteChangeWrongFalsely : Prop := fnIsPlainMicroTimeOneByteChangeRow.holds Try.pinned (OpenSpec.ofChange fnIsPlainMicroTimeOneByteChangeWrong)

/-- 'zzlaws_api_b1.FnSkipNumberMatchesGrammarAutomaton': WHATEVER THE INPUT: true; the input reads as it did. -/
def fnSkipNumberMatchesGrammarAutomatonSpec : ChangeSpec := { name := "fnSkipNumberMatchesGrammarAutomaton", fn := fun _ => fun
  | [d1, d2, d3] => { results := [.lit (.bool true)], args := [d1, d2, d3] }
  | _ => none }
def fnSkipNumberMatchesGrammarAutomatonRow : OpenClaim := { program := "qxb6602886a", sum := "49e40aa3bc02cfbaa8b8c00bb957dc77911af1341dcfa8b3c6d1b5e04ea7c5c6", func := "example.com/wakeline/wakeline/zzlaws_api_b1.FnSkipNumberMatchesGrammarAutomaton", spec := "fnSkipNumberMatchesGrammarAutomaton", unfollowed := true, recurses := true, apart := false }
def FnSkipNumberMatchesGrammarAutomatonSaid : Prop := fnSkipNumberMatchesGrammarAutomatonRow.holds Try.pinned (OpenSpec.ofChange fnSkipNumberMatchesGrammarAutomatonSpec)

/-- ITS FALSE NEIGHBOUR: 'it returns false'. Refute it at one input. -/
def fnSkipNumberMatchesGrammarAutomatonWrong : ChangeSpec := { name := "fnSkipNumberMatchesGrammarAutomaton", fn := fun _ => fun
  | [d1, d2, d3] => { results := [.lit (.bool false)], args := [d1, d2, d3] }
  | _ => none }
def FnSkipNumberMatchesGrammarAutomatonWrongFalsely : Prop := fnSkipNumberMatchesGrammarAutomatonRow.holds Try.pinned (OpenSpec.ofChange fnSkipNumberMatchesGrammarAutomatonWrong)

/-- 'zzlaws_api_b1.FnSkipNumberLooksOnlyAhead': WHATEVER THE INPUT: true; the input reads as it did. -/
def fnSkipNumberLooksOnlyAheadSpec : ChangeSpec := { name := "fnSkipNumberLooksOnlyAhead", fn := fun _ => fun
  | [d1, d2, d3, d4] => { results := [.lit (.bool true)], args := [d1, d2, d3, d4] }
  | _ => none }
def fnSkipNumberLooksOnlyAheadRow : OpenClaim := { program := "qxb6602886a", sum := "49e40aa3bc02cfbaa8b8c00bb957dc77911af1341dcfa8b3c6d1b5e04ea7c5c6", func := "example.com/wakeline/wakeline/zzlaws_api_b1.FnSkipNumberLooksOnlyAhead", spec := "fnSkipNumberLooksOnlyAhead", unfollowed := true, recurses := true, apart := false }
def FnSkipNumberLooksOnlyAheadSaid : Prop := fnSkipNumberLooksOnlyAheadRow.holds Try.pinned (OpenSpec.ofChange fnSkipNumberLooksOnlyAheadSpec)

/-- ITS FALSE NEIGHBOUR: 'it returns false'. Refute it at one input. -/
def fnSkipNumberLooksOnlyAheadWrong : ChangeSpec := { name := "fnSkipNumberLooksOnlyAhead", fn := fun _ => fun
  | [d1, d2, d3, d4] => { results := [.lit (.bool false)], args := [d1, d2, d3, d4] }
  | _ => none }
def FnSkipNumberLooksOnlyAheadWrongFalsely : Prop := fnSkipNumberLooksOnlyAheadRow.holds Try.pinned (OpenSpec.ofChange fnSkipNumberLooksOnlyAheadWrong)

end Rows
end Go.Proofs.Qxb6602886a
