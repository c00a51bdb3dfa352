/-
  No cell of these rows narrows 'for every input' (looked for: loops, veiled, ifaces, maps, wideKeys, modest, calm, conditions, laid).
  DERIVED. THE GIVEN ROWS OF THIS SEAT. 5 by the template 'for every input the law returns true; each argument reads behind the call as it read before'; 0 by the template 'total and deterministic' (their statements: Qxb6604270aTotals.lean).
  GIVEN WITH THE SEED: the statements are not yours to turn. If you find one false, say at which input.
  Laid BY PROGRAM, IN A SANDBOX (cutbox-rows.mjs): the forced cells as the released guide's own fill.sh prints them over the translation f6e4ad862c97f46b… (all of the seat's roots in one cut). By AI agents, Wed Nov 11 2026. No macro, syntax, notation, axiom, sorry.
-/
import Derived.Test.Qxb6604270aChecked
import GoSem.Claim
import GoSem.ClaimJoined
import GoSem.ClaimMapViews
import Derived.JoinedTies
import Derived.KernelRfl
namespace Go.Proofs.Qxb6604270a
/- THE CELL 'sum', in the pinned program and in every row, IS THE sha256 OF THE DUMP (.gsa) THAT Qxb6604270aProg.lean LOADS. Nothing in Lean hashes anything: it is a label: what it is worth is what the hold of that sum in a sandbox is worth. -/
noncomputable def Try.pinned : Pinned := { name := "qxb6604270a", sum := "f6e4ad862c97f46b527bd35a4646c2458690e76b45eb9779c7120a8f38f898c4", checked := Try.checked }
namespace Rows
def none {H : Type} : Left H := { results := [], args := [] }

/-- 'zzlaws_internal_jsontext_b1.FnAppendStringMatchesEscapeTable': WHATEVER THE INPUT: true; the input reads as it did. -/
def fnAppendStringMatchesEscapeTableSpec : ChangeSpec := { name := "fnAppendStringMatchesEscapeTable", fn := fun _ => fun
  | [d1, d2] => { results := [.lit (.bool true)], args := [d1, d2] }
  | _ => none }
def fnAppendStringMatchesEscapeTableRow : OpenClaim := { program := "qxb6604270a", sum := "f6e4ad862c97f46b527bd35a4646c2458690e76b45eb9779c7120a8f38f898c4", func := "example.com/toolcharter/toolcharter/zzlaws_internal_jsontext_b1.FnAppendStringMatchesEscapeTable", spec := "fnAppendStringMatchesEscapeTable", apart := false }
def FnAppendStringMatchesEscapeTableSaid : Prop := fnAppendStringMatchesEscapeTableRow.holds Try.pinned (OpenSpec.ofChange fnAppendStringMatchesEscapeTableSpec)

/-- ITS FALSE NEIGHBOUR: 'it returns false'. Refute it at one input. -/
def fnAppendStringMatchesEscapeTableWrong : ChangeSpec := { name := "fnAppendStringMatchesEscapeTable", fn := fun _ => fun
  | [d1, d2] => { results := [.lit (.bool false)], args := [d1, d2] }
  | _ => none }
def FnAppendStringMatchesEscapeTableWrongFalsely : Prop := fnAppendStringMatchesEscapeTableRow.holds Try.pinned (OpenSpec.ofChange fnAppendStringMatchesEscapeTableWrong)

/-- 'zzlaws_internal_jsontext_b1.FnAppendStringUnquotesBack': WHATEVER THE INPUT: true; the input reads as it did. -/
def fnAppendStringUnquotesBackSpec : ChangeSpec := { name := "fnAppendStringUnquotesBack", fn := fun _ => fun
  | [d1, d2] => { results := [.lit (.bool true)], args := [d1, d2] }
  | _ => none }
def fnAppendStringUnquotesBackRow : OpenClaim := { program := "qxb6604270a", sum := "f6e4ad862c97f46b527bd35a4646c2458690e76b45eb9779c7120a8f38f898c4", func := "example.com/toolcharter/toolcharter/zzlaws_internal_jsontext_b1.FnAppendStringUnquotesBack", spec := "fnAppendStringUnquotesBack", apart := false }
def FnAppendStringUnquotesBackSaid : Prop := fnAppendStringUnquotesBackRow.holds Try.pinned (OpenSpec.ofChange fnAppendStringUnquotesBackSpec)

/-- ITS FALSE NEIGHBOUR: 'it returns false'. Refute it at one input. -/
def fnAppendStringUnquotesBackWrong : ChangeSpec := { name := "fnAppendStringUnquotesBack", fn := fun _ => fun
  | [d1, d2] => { results := [.lit (.bool false)], args := [d1, d2] }
  | _ => none }
def FnAppendStringUnquotesBackWrongFalsely : Prop := fnAppendStringUnquotesBackRow.holds Try.pinned (OpenSpec.ofChange fnAppendStringUnquotesBackWrong)

/-- 'zzlaws_internal_jsontext_b1.FnAppendStringEscapesByteByByte': WHATEVER THE INPUT: true; the input reads as it did. -/
def fnAppendStringEscapesByteByByteSpec : ChangeSpec := { name := "fnAppendStringEscapesByteByByte", fn := fun _ => fun
  | [d1, d2] => { results := [.lit (.bool true)], args := [d1, d2] }
  | _ => none }
def fnAppendStringEscapesByteByByteRow : OpenClaim := { program := "qxb6604270a", sum := "f6e4ad862c97f46b527bd35a4646c2458690e76b45eb9779c7120a8f38f898c4", func := "example.com/toolcharter/toolcharter/zzlaws_internal_jsontext_b1.FnAppendStringEscapesByteByByte", spec := "fnAppendStringEscapesByteByByte", apart := false }
def FnAppendStringEscapesByteByByteSaid : Prop := fnAppendStringEscapesByteByByteRow.holds Try.pinned (OpenSpec.ofChange fnAppendStringEscapesByteByByteSpec)

/-- ITS FALSE NEIGHBOUR: 'it returns false'. Refute it at one input. -/
def fnAppendStringEscapesByteByByteWrong : ChangeSpec := { name := "fnAppendStringEscapesByteByByte", fn := fun _ => fun
  | [d1, d2] => { results := [.lit (.bool false)], args := [d1, d2] }
  | _ => none }
def FnAppendStringEscapesByteByByteWrongFalsely : Prop := fnAppendStringEscapesByteByByteRow.holds Try.pinned (OpenSpec.ofChange fnAppendStringEscapesByteByByteWrong)

/-- 'zzlaws_internal_jsontext_b1.FnHexValueMatchesDigitTable': WHATEVER THE INPUT: true; the input reads as it did. -/
def fnHexValueMatchesDigitTableSpec : ChangeSpec := { name := "fnHexValueMatchesDigitTable", fn := fun _ => fun
  | [d] => { results := [.lit (.bool true)], args := [d] }
  | _ => none }
def fnHexValueMatchesDigitTableRow : OpenClaim := { program := "qxb6604270a", sum := "f6e4ad862c97f46b527bd35a4646c2458690e76b45eb9779c7120a8f38f898c4", func := "example.com/toolcharter/toolcharter/zzlaws_internal_jsontext_b1.FnHexValueMatchesDigitTable", spec := "fnHexValueMatchesDigitTable", apart := false }
def FnHexValueMatchesDigitTableSaid : Prop := fnHexValueMatchesDigitTableRow.holds Try.pinned (OpenSpec.ofChange fnHexValueMatchesDigitTableSpec)

/-- ITS FALSE NEIGHBOUR: 'it returns false'. Refute it at one input. -/
def fnHexValueMatchesDigitTableWrong : ChangeSpec := { name := "fnHexValueMatchesDigitTable", fn := fun _ => fun
  | [d] => { results := [.lit (.bool false)], args := [d] }
  | _ => none }
def FnHexValueMatchesDigitTableWrongFalsely : Prop := fnHexValueMatchesDigitTableRow.holds Try.pinned (OpenSpec.ofChange fnHexValueMatchesDigitTableWrong)

/-- 'zzlaws_internal_jsontext_b1.FnHexValueReadsEveryFourDigitSpelling': WHATEVER THE INPUT: true; the input reads as it did. -/
def fnHexValueReadsEveryFourDigitSpellingSpec : ChangeSpec := { name := "fnHexValueReadsEveryFourDigitSpelling", fn := fun _ => fun
  | [d1, d2] => { results := [.lit (.bool true)], args := [d1, d2] }
  | _ => none }
def fnHexValueReadsEveryFourDigitSpellingRow : OpenClaim := { program := "qxb6604270a", sum := "f6e4ad862c97f46b527bd35a4646c2458690e76b45eb9779c7120a8f38f898c4", func := "example.com/toolcharter/toolcharter/zzlaws_internal_jsontext_b1.FnHexValueReadsEveryFourDigitSpelling", spec := "fnHexValueReadsEveryFourDigitSpelling", apart := false }
def FnHexValueReadsEveryFourDigitSpellingSaid : Prop := fnHexValueReadsEveryFourDigitSpellingRow.holds Try.pinned (OpenSpec.ofChange fnHexValueReadsEveryFourDigitSpellingSpec)

/-- ITS FALSE NEIGHBOUR: 'it returns false'. Refute it at one input. -/
def fnHexValueReadsEveryFourDigitSpellingWrong : ChangeSpec := { name := "fnHexValueReadsEveryFourDigitSpelling", fn := fun _ => fun
  | [d1, d2] => { results := [.lit (.bool false)], args := [d1, d2] }
  | _ => none }
def FnHexValueReadsEveryFourDigitSpellingWrongFalsely : Prop := fnHexValueReadsEveryFourDigitSpellingRow.holds Try.pinned (OpenSpec.ofChange fnHexValueReadsEveryFourDigitSpellingWrong)

end Rows
end Go.Proofs.Qxb6604270a
