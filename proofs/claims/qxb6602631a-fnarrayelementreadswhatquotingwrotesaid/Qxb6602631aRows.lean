/-
  No cell of these rows narrows 'for every input' (looked for: loops, veiled, ifaces, maps, wideKeys, modest, calm, conditions, laid).
  DERIVED. THE GIVEN ROWS OF THIS SEAT. 3 by the template 'for every input the law returns true; each argument reads behind the call as it read before'; 0 by the template 'total and deterministic' (their statements: Qxb6602631aTotals.lean).
  GIVEN WITH THE SEED: the statements are not yours to turn. If you find one false, say at which input.
  Laid BY PROGRAM, IN A SANDBOX (cutbox-rows.mjs): the forced cells as the released guide's own fill.sh prints them over the translation de7823f8eb25911c… (all of the seat's roots in one cut). By AI agents, Wed Nov 11 2026. No macro, syntax, notation, axiom, sorry.
-/
import Derived.Test.Qxb6602631aChecked
import GoSem.Claim
import GoSem.ClaimJoined
import GoSem.ClaimMapViews
import Derived.JoinedTies
import Derived.KernelRfl
namespace Go.Proofs.Qxb6602631a
/- THE CELL 'sum', in the pinned program and in every row, IS THE sha256 OF THE DUMP (.gsa) THAT Qxb6602631aProg.lean LOADS. Nothing in Lean hashes anything: it is a label: what it is worth is what the hold of that sum in a sandbox is worth. -/
noncomputable def Try.pinned : Pinned := { name := "qxb6602631a", sum := "de7823f8eb25911ccec356c6fae8ae1b8d5656001fd6288914ea42412dbef03a", checked := Try.checked }
namespace Rows
def none {H : Type} : Left H := { results := [], args := [] }

/-- 'zzlaws_internal_condition_b1.FnArrayElementMatchesModel': WHATEVER THE INPUT: true; the input reads as it did. -/
def fnArrayElementMatchesModelSpec : ChangeSpec := { name := "fnArrayElementMatchesModel", fn := fun _ => fun
  | [d] => { results := [.lit (.bool true)], args := [d] }
  | _ => none }
def fnArrayElementMatchesModelRow : OpenClaim := { program := "qxb6602631a", sum := "de7823f8eb25911ccec356c6fae8ae1b8d5656001fd6288914ea42412dbef03a", func := "example.com/snapline/snapline/zzlaws_internal_condition_b1.FnArrayElementMatchesModel", spec := "fnArrayElementMatchesModel", inPlace := ["internal/bytealg.IndexByteString"], apart := false }
def FnArrayElementMatchesModelSaid : Prop := fnArrayElementMatchesModelRow.holds Try.pinned (OpenSpec.ofChange fnArrayElementMatchesModelSpec)

/-- ITS FALSE NEIGHBOUR: 'it returns false'. Refute it at one input. -/
def fnArrayElementMatchesModelWrong : ChangeSpec := { name := "fnArrayElementMatchesModel", fn := fun _ => fun
  | [d] => { results := [.lit (.bool false)], args := [d] }
  | _ => none }
def FnArrayElementMatchesModelWrongFalsely : Prop := fnArrayElementMatchesModelRow.holds Try.pinned (OpenSpec.ofChange fnArrayElementMatchesModelWrong)

/-- 'zzlaws_internal_condition_b1.FnArrayElementReadsWhatQuotingWrote': WHATEVER THE INPUT: true; the input reads as it did. -/
def fnArrayElementReadsWhatQuotingWroteSpec : ChangeSpec := { name := "fnArrayElementReadsWhatQuotingWrote", fn := fun _ => fun
  | [d1, d2] => { results := [.lit (.bool true)], args := [d1, d2] }
  | _ => none }
def fnArrayElementReadsWhatQuotingWroteRow : OpenClaim := { program := "qxb6602631a", sum := "de7823f8eb25911ccec356c6fae8ae1b8d5656001fd6288914ea42412dbef03a", func := "example.com/snapline/snapline/zzlaws_internal_condition_b1.FnArrayElementReadsWhatQuotingWrote", spec := "fnArrayElementReadsWhatQuotingWrote", inPlace := ["internal/bytealg.IndexByteString"], apart := false }
def FnArrayElementReadsWhatQuotingWroteSaid : Prop := fnArrayElementReadsWhatQuotingWroteRow.holds Try.pinned (OpenSpec.ofChange fnArrayElementReadsWhatQuotingWroteSpec)

/-- ITS FALSE NEIGHBOUR: 'it returns false'. Refute it at one input. -/
def fnArrayElementReadsWhatQuotingWroteWrong : ChangeSpec := { name := "fnArrayElementReadsWhatQuotingWrote", fn := fun _ => fun
  | [d1, d2] => { results := [.lit (.bool false)], args := [d1, d2] }
  | _ => none }
def FnArrayElementReadsWhatQuotingWroteWrongFalsely : Prop := fnArrayElementReadsWhatQuotingWroteRow.holds Try.pinned (OpenSpec.ofChange fnArrayElementReadsWhatQuotingWroteWrong)

/-- 'zzlaws_internal_condition_b1.FnArrayElementIgnoresLeadingBlanks': WHATEVER THE INPUT: true; the input reads as it did. -/
def fnArrayElementIgnoresLeadingBlanksSpec : ChangeSpec := { name := "fnArrayElementIgnoresLeadingBlanks", fn := fun _ => fun
  | [d1, d2] => { results := [.lit (.bool true)], args := [d1, d2] }
  | _ => none }
def fnArrayElementIgnoresLeadingBlanksRow : OpenClaim := { program := "qxb6602631a", sum := "de7823f8eb25911ccec356c6fae8ae1b8d5656001fd6288914ea42412dbef03a", func := "example.com/snapline/snapline/zzlaws_internal_condition_b1.FnArrayElementIgnoresLeadingBlanks", spec := "fnArrayElementIgnoresLeadingBlanks", inPlace := ["internal/bytealg.IndexByteString"], apart := false }
def FnArrayElementIgnoresLeadingBlanksSaid : Prop := fnArrayElementIgnoresLeadingBlanksRow.holds Try.pinned (OpenSpec.ofChange fnArrayElementIgnoresLeadingBlanksSpec)

/-- ITS FALSE NEIGHBOUR: 'it returns false'. Refute it at one input. -/
def fnArrayElementIgnoresLeadingBlanksWrong : ChangeSpec := { name := "fnArrayElementIgnoresLeadingBlanks", fn := fun _ => fun
  | [d1, d2] => { results := [.lit (.bool false)], args := [d1, d2] }
  | _ => none }
def FnArrayElementIgnoresLeadingBlanksWrongFalsely : Prop := fnArrayElementIgnoresLeadingBlanksRow.holds Try.pinned (OpenSpec.ofChange fnArrayElementIgnoresLeadingBlanksWrong)

end Rows
end Go.Proofs.Qxb6602631a
