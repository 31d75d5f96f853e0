/-
  No cell of these rows narrows 'for every input' (looked for: loops, veiled, ifaces, maps, wideKeys, modest, calm, conditions, laid).
  DERIVED. THE GIVEN ROWS OF THIS SEAT. 4 by the template 'for every input the law returns true; each argument reads behind the call as it read before'; 0 by the template 'total and deterministic' (their statements: Qxb6603388aTotals.lean).
  GIVEN WITH THE SEED: the statements are not yours to turn. If you find one false, say at which input.
  Laid BY PROGRAM, IN A SANDBOX (cutbox-rows.mjs): the forced cells as the released guide's own fill.sh prints them over the translation ffe4df9015a6c6e6… (all of the seat's roots in one cut). By AI agents, Wed Nov 11 2026. No macro, syntax, notation, axiom, sorry.
-/
import Derived.Test.Qxb6603388aChecked
import GoSem.Claim
import GoSem.ClaimJoined
import GoSem.ClaimMapViews
import Derived.JoinedTies
import Derived.KernelRfl
namespace Go.Proofs.Qxb6603388a
/- THE CELL 'sum', in the pinned program and in every row, IS THE sha256 OF THE DUMP (.gsa) THAT Qxb6603388aProg.lean LOADS. Nothing in Lean hashes anything: it is a label: what it is worth is what the hold of that sum in a sandbox is worth. -/
noncomputable def Try.pinned : Pinned := { name := "qxb6603388a", sum := "ffe4df9015a6c6e6b4567bdb0b7a03ebf62e5c40e2cfcbd355f1356733486a3d", checked := Try.checked }
namespace Rows
def none {H : Type} : Left H := { results := [], args := [] }

/-- 'zzlaws_internal_xlsx_b1.FnSignificantMatchesStrippedDigits': WHATEVER THE INPUT: true; the input reads as it did. -/
def fnSignificantMatchesStrippedDigitsSpec : ChangeSpec := { name := "fnSignificantMatchesStrippedDigits", fn := fun _ => fun
  | [d] => { results := [.lit (.bool true)], args := [d] }
  | _ => none }
def fnSignificantMatchesStrippedDigitsRow : OpenClaim := { program := "qxb6603388a", sum := "ffe4df9015a6c6e6b4567bdb0b7a03ebf62e5c40e2cfcbd355f1356733486a3d", func := "example.com/vestscope/vestscope/zzlaws_internal_xlsx_b1.FnSignificantMatchesStrippedDigits", spec := "fnSignificantMatchesStrippedDigits", apart := false }
def FnSignificantMatchesStrippedDigitsSaid : Prop := fnSignificantMatchesStrippedDigitsRow.holds Try.pinned (OpenSpec.ofChange fnSignificantMatchesStrippedDigitsSpec)

/-- ITS FALSE NEIGHBOUR: 'it returns false'. Refute it at one input. -/
def fnSignificantMatchesStrippedDigitsWrong : ChangeSpec := { name := "fnSignificantMatchesStrippedDigits", fn := fun _ => fun
  | [d] => { results := [.lit (.bool false)], args := [d] }
  | _ => none }
def FnSignificantMatchesStrippedDigitsWrongFalsely : Prop := fnSignificantMatchesStrippedDigitsRow.holds Try.pinned (OpenSpec.ofChange fnSignificantMatchesStrippedDigitsWrong)

/-- 'zzlaws_internal_xlsx_b1.FnSignificantIgnoresOuterZerosAndNonDigits': WHATEVER THE INPUT: true; the input reads as it did. -/
def fnSignificantIgnoresOuterZerosAndNonDigitsSpec : ChangeSpec := { name := "fnSignificantIgnoresOuterZerosAndNonDigits", fn := fun _ => fun
  | [d1, d2, d3, d4, d5] => { results := [.lit (.bool true)], args := [d1, d2, d3, d4, d5] }
  | _ => none }
def fnSignificantIgnoresOuterZerosAndNonDigitsRow : OpenClaim := { program := "qxb6603388a", sum := "ffe4df9015a6c6e6b4567bdb0b7a03ebf62e5c40e2cfcbd355f1356733486a3d", func := "example.com/vestscope/vestscope/zzlaws_internal_xlsx_b1.FnSignificantIgnoresOuterZerosAndNonDigits", spec := "fnSignificantIgnoresOuterZerosAndNonDigits", apart := false }
def FnSignificantIgnoresOuterZerosAndNonDigitsSaid : Prop := fnSignificantIgnoresOuterZerosAndNonDigitsRow.holds Try.pinned (OpenSpec.ofChange fnSignificantIgnoresOuterZerosAndNonDigitsSpec)

/-- ITS FALSE NEIGHBOUR: 'it returns false'. Refute it at one input. -/
def fnSignificantIgnoresOuterZerosAndNonDigitsWrong : ChangeSpec := { name := "fnSignificantIgnoresOuterZerosAndNonDigits", fn := fun _ => fun
  | [d1, d2, d3, d4, d5] => { results := [.lit (.bool false)], args := [d1, d2, d3, d4, d5] }
  | _ => none }
def FnSignificantIgnoresOuterZerosAndNonDigitsWrongFalsely : Prop := fnSignificantIgnoresOuterZerosAndNonDigitsRow.holds Try.pinned (OpenSpec.ofChange fnSignificantIgnoresOuterZerosAndNonDigitsWrong)

/-- 'zzlaws_internal_xlsx_b1.FnSignificantBoundedByDigitCount': WHATEVER THE INPUT: true; the input reads as it did. -/
def fnSignificantBoundedByDigitCountSpec : ChangeSpec := { name := "fnSignificantBoundedByDigitCount", fn := fun _ => fun
  | [d] => { results := [.lit (.bool true)], args := [d] }
  | _ => none }
def fnSignificantBoundedByDigitCountRow : OpenClaim := { program := "qxb6603388a", sum := "ffe4df9015a6c6e6b4567bdb0b7a03ebf62e5c40e2cfcbd355f1356733486a3d", func := "example.com/vestscope/vestscope/zzlaws_internal_xlsx_b1.FnSignificantBoundedByDigitCount", spec := "fnSignificantBoundedByDigitCount", apart := false }
def FnSignificantBoundedByDigitCountSaid : Prop := fnSignificantBoundedByDigitCountRow.holds Try.pinned (OpenSpec.ofChange fnSignificantBoundedByDigitCountSpec)

/-- ITS FALSE NEIGHBOUR: 'it returns false'. Refute it at one input. -/
def fnSignificantBoundedByDigitCountWrong : ChangeSpec := { name := "fnSignificantBoundedByDigitCount", fn := fun _ => fun
  | [d] => { results := [.lit (.bool false)], args := [d] }
  | _ => none }
def FnSignificantBoundedByDigitCountWrongFalsely : Prop := fnSignificantBoundedByDigitCountRow.holds Try.pinned (OpenSpec.ofChange fnSignificantBoundedByDigitCountWrong)

/-- 'zzlaws_internal_xlsx_b1.FnFormatCodeDistinguishesFormats': WHATEVER THE INPUT: true; the input reads as it did. -/
def fnFormatCodeDistinguishesFormatsSpec : ChangeSpec := { name := "fnFormatCodeDistinguishesFormats", fn := fun _ => fun
  | [d1, d2, d3, d4] => { results := [.lit (.bool true)], args := [d1, d2, d3, d4] }
  | _ => none }
def fnFormatCodeDistinguishesFormatsRow : OpenClaim := { program := "qxb6603388a", sum := "ffe4df9015a6c6e6b4567bdb0b7a03ebf62e5c40e2cfcbd355f1356733486a3d", func := "example.com/vestscope/vestscope/zzlaws_internal_xlsx_b1.FnFormatCodeDistinguishesFormats", spec := "fnFormatCodeDistinguishesFormats", inPlace := ["internal/abi.NoEscape", "internal/bytealg.MakeNoZero"], apart := false }
def FnFormatCodeDistinguishesFormatsSaid : Prop := fnFormatCodeDistinguishesFormatsRow.holds Try.pinned (OpenSpec.ofChange fnFormatCodeDistinguishesFormatsSpec)

/-- ITS FALSE NEIGHBOUR: 'it returns false'. Refute it at one input. -/
def fnFormatCodeDistinguishesFormatsWrong : ChangeSpec := { name := "fnFormatCodeDistinguishesFormats", fn := fun _ => fun
  | [d1, d2, d3, d4] => { results := [.lit (.bool false)], args := [d1, d2, d3, d4] }
  | _ => none }
def FnFormatCodeDistinguishesFormatsWrongFalsely : Prop := fnFormatCodeDistinguishesFormatsRow.holds Try.pinned (OpenSpec.ofChange fnFormatCodeDistinguishesFormatsWrong)

end Rows
end Go.Proofs.Qxb6603388a
