/-
  No cell of these rows narrows 'for every input' (looked for: loops, veiled, ifaces, maps, wideKeys, modest, calm, conditions, laid).
  DERIVED. THE GIVEN ROWS OF THIS SEAT. 4 by the template 'for every input the law returns true; each argument reads behind the call as it read before'; 0 by the template 'total and deterministic' (their statements: Qxb6602366aTotals.lean).
  GIVEN WITH THE SEED: the statements are not yours to turn. If you find one false, say at which input.
  Laid BY PROGRAM, IN A SANDBOX (cutbox-rows.mjs): the forced cells as the released guide's own fill.sh prints them over the translation ade7e274be8afd28… (all of the seat's roots in one cut). By AI agents, Wed Nov 11 2026. No macro, syntax, notation, axiom, sorry.
-/
import Derived.Test.Qxb6602366aChecked
import GoSem.Claim
import GoSem.ClaimJoined
import GoSem.ClaimMapViews
import Derived.JoinedTies
import Derived.KernelRfl
namespace Go.Proofs.Qxb6602366a
/- THE CELL 'sum', in the pinned program and in every row, IS THE sha256 OF THE DUMP (.gsa) THAT Qxb6602366aProg.lean LOADS. Nothing in Lean hashes anything: it is a label: what it is worth is what the hold of that sum in a sandbox is worth. -/
noncomputable def Try.pinned : Pinned := { name := "qxb6602366a", sum := "ade7e274be8afd28c4bdaa8c0098f0c7878cfed0ed00b17cef1d02b7cb811c71", checked := Try.checked }
namespace Rows
def none {H : Type} : Left H := { results := [], args := [] }

/-- 'zzlaws_report_b1.FnServerFieldWordsMatchesGrammar': WHATEVER THE INPUT: true; the input reads as it did. -/
def fnServerFieldWordsMatchesGrammarSpec : ChangeSpec := { name := "fnServerFieldWordsMatchesGrammar", fn := fun _ => fun
  | [d] => { results := [.lit (.bool true)], args := [d] }
  | _ => none }
def fnServerFieldWordsMatchesGrammarRow : OpenClaim := { program := "qxb6602366a", sum := "ade7e274be8afd28c4bdaa8c0098f0c7878cfed0ed00b17cef1d02b7cb811c71", func := "example.com/gaplight/gaplight/zzlaws_report_b1.FnServerFieldWordsMatchesGrammar", spec := "fnServerFieldWordsMatchesGrammar", apart := false }
def FnServerFieldWordsMatchesGrammarSaid : Prop := fnServerFieldWordsMatchesGrammarRow.holds Try.pinned (OpenSpec.ofChange fnServerFieldWordsMatchesGrammarSpec)

/-- ITS FALSE NEIGHBOUR: 'it returns false'. Refute it at one input. -/
def fnServerFieldWordsMatchesGrammarWrong : ChangeSpec := { name := "fnServerFieldWordsMatchesGrammar", fn := fun _ => fun
  | [d] => { results := [.lit (.bool false)], args := [d] }
  | _ => none }
def FnServerFieldWordsMatchesGrammarWrongFalsely : Prop := fnServerFieldWordsMatchesGrammarRow.holds Try.pinned (OpenSpec.ofChange fnServerFieldWordsMatchesGrammarWrong)

/-- 'zzlaws_report_b1.FnServerFieldWordsReadsServerText': WHATEVER THE INPUT: true; the input reads as it did. -/
def fnServerFieldWordsReadsServerTextSpec : ChangeSpec := { name := "fnServerFieldWordsReadsServerText", fn := fun _ => fun
  | [d1, d2, d3] => { results := [.lit (.bool true)], args := [d1, d2, d3] }
  | _ => none }
def fnServerFieldWordsReadsServerTextRow : OpenClaim := { program := "qxb6602366a", sum := "ade7e274be8afd28c4bdaa8c0098f0c7878cfed0ed00b17cef1d02b7cb811c71", func := "example.com/gaplight/gaplight/zzlaws_report_b1.FnServerFieldWordsReadsServerText", spec := "fnServerFieldWordsReadsServerText", apart := false }
def FnServerFieldWordsReadsServerTextSaid : Prop := fnServerFieldWordsReadsServerTextRow.holds Try.pinned (OpenSpec.ofChange fnServerFieldWordsReadsServerTextSpec)

/-- ITS FALSE NEIGHBOUR: 'it returns false'. Refute it at one input. -/
def fnServerFieldWordsReadsServerTextWrong : ChangeSpec := { name := "fnServerFieldWordsReadsServerText", fn := fun _ => fun
  | [d1, d2, d3] => { results := [.lit (.bool false)], args := [d1, d2, d3] }
  | _ => none }
def FnServerFieldWordsReadsServerTextWrongFalsely : Prop := fnServerFieldWordsReadsServerTextRow.holds Try.pinned (OpenSpec.ofChange fnServerFieldWordsReadsServerTextWrong)

/-- 'zzlaws_report_b1.FnIdentifierMatchesScanner': WHATEVER THE INPUT: true; the input reads as it did. -/
def fnIdentifierMatchesScannerSpec : ChangeSpec := { name := "fnIdentifierMatchesScanner", fn := fun _ => fun
  | [d1, d2] => { results := [.lit (.bool true)], args := [d1, d2] }
  | _ => none }
def fnIdentifierMatchesScannerRow : OpenClaim := { program := "qxb6602366a", sum := "ade7e274be8afd28c4bdaa8c0098f0c7878cfed0ed00b17cef1d02b7cb811c71", func := "example.com/gaplight/gaplight/zzlaws_report_b1.FnIdentifierMatchesScanner", spec := "fnIdentifierMatchesScanner", inPlace := ["internal/bytealg.IndexByteString", "internal/bytealg.IndexString", "internal/abi.NoEscape"], named := ["internal/bytealg.MaxLen"], apart := false }
def FnIdentifierMatchesScannerSaid : Prop := fnIdentifierMatchesScannerRow.holds Try.pinned (OpenSpec.ofChange fnIdentifierMatchesScannerSpec)

/-- ITS FALSE NEIGHBOUR: 'it returns false'. Refute it at one input. -/
def fnIdentifierMatchesScannerWrong : ChangeSpec := { name := "fnIdentifierMatchesScanner", fn := fun _ => fun
  | [d1, d2] => { results := [.lit (.bool false)], args := [d1, d2] }
  | _ => none }
def FnIdentifierMatchesScannerWrongFalsely : Prop := fnIdentifierMatchesScannerRow.holds Try.pinned (OpenSpec.ofChange fnIdentifierMatchesScannerWrong)

/-- 'zzlaws_report_b1.FnIdentifierRestIsSuffix': WHATEVER THE INPUT: true; the input reads as it did. -/
def fnIdentifierRestIsSuffixSpec : ChangeSpec := { name := "fnIdentifierRestIsSuffix", fn := fun _ => fun
  | [d1, d2] => { results := [.lit (.bool true)], args := [d1, d2] }
  | _ => none }
def fnIdentifierRestIsSuffixRow : OpenClaim := { program := "qxb6602366a", sum := "ade7e274be8afd28c4bdaa8c0098f0c7878cfed0ed00b17cef1d02b7cb811c71", func := "example.com/gaplight/gaplight/zzlaws_report_b1.FnIdentifierRestIsSuffix", spec := "fnIdentifierRestIsSuffix", inPlace := ["internal/bytealg.IndexByteString", "internal/bytealg.IndexString", "internal/abi.NoEscape"], named := ["internal/bytealg.MaxLen"], apart := false }
def FnIdentifierRestIsSuffixSaid : Prop := fnIdentifierRestIsSuffixRow.holds Try.pinned (OpenSpec.ofChange fnIdentifierRestIsSuffixSpec)

/-- ITS FALSE NEIGHBOUR: 'it returns false'. Refute it at one input. -/
def fnIdentifierRestIsSuffixWrong : ChangeSpec := { name := "fnIdentifierRestIsSuffix", fn := fun _ => fun
  | [d1, d2] => { results := [.lit (.bool false)], args := [d1, d2] }
  | _ => none }
def FnIdentifierRestIsSuffixWrongFalsely : Prop := fnIdentifierRestIsSuffixRow.holds Try.pinned (OpenSpec.ofChange fnIdentifierRestIsSuffixWrong)

end Rows
end Go.Proofs.Qxb6602366a
