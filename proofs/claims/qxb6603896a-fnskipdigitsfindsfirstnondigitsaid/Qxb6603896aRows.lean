/-
  No cell of these rows narrows 'for every input' (looked for: loops, veiled, ifaces, maps, wideKeys, modest, calm, conditions, laid).
  DERIVED. THE GIVEN ROWS OF THIS SEAT. 2 by the template 'for every input the law returns true; each argument reads behind the call as it read before'; 0 by the template 'total and deterministic' (their statements: Qxb6603896aTotals.lean).
  GIVEN WITH THE SEED: the statements are not yours to turn. If you find one false, say at which input.
  Laid BY PROGRAM, IN A SANDBOX (cutbox-rows.mjs): the forced cells as the released guide's own fill.sh prints them over the translation 242b46b3214cf298… (all of the seat's roots in one cut). By AI agents, Wed Nov 11 2026. No macro, syntax, notation, axiom, sorry.
-/
import Derived.Test.Qxb6603896aChecked
import GoSem.Claim
import GoSem.ClaimJoined
import GoSem.ClaimMapViews
import Derived.JoinedTies
import Derived.KernelRfl
namespace Go.Proofs.Qxb6603896a
/- THE CELL 'sum', in the pinned program and in every row, IS THE sha256 OF THE DUMP (.gsa) THAT Qxb6603896aProg.lean LOADS. Nothing in Lean hashes anything: it is a label: what it is worth is what the hold of that sum in a sandbox is worth. -/
noncomputable def Try.pinned : Pinned := { name := "qxb6603896a", sum := "242b46b3214cf298408b37857be5de47b237c91c3bcd30c68fada5cd974efd76", checked := Try.checked }
namespace Rows
def none {H : Type} : Left H := { results := [], args := [] }

/-- 'zzlaws_decimal_b1.FnSkipDigitsFindsFirstNonDigit': WHATEVER THE INPUT: true; the input reads as it did. -/
def fnSkipDigitsFindsFirstNonDigitSpec : ChangeSpec := { name := "fnSkipDigitsFindsFirstNonDigit", fn := fun _ => fun
  | [d1, d2] => { results := [.lit (.bool true)], args := [d1, d2] }
  | _ => none }
def fnSkipDigitsFindsFirstNonDigitRow : OpenClaim := { program := "qxb6603896a", sum := "242b46b3214cf298408b37857be5de47b237c91c3bcd30c68fada5cd974efd76", func := "example.com/vestline/vestline/zzlaws_decimal_b1.FnSkipDigitsFindsFirstNonDigit", spec := "fnSkipDigitsFindsFirstNonDigit", apart := false }
def FnSkipDigitsFindsFirstNonDigitSaid : Prop := fnSkipDigitsFindsFirstNonDigitRow.holds Try.pinned (OpenSpec.ofChange fnSkipDigitsFindsFirstNonDigitSpec)

/-- ITS FALSE NEIGHBOUR: 'it returns false'. Refute it at one input. -/
def fnSkipDigitsFindsFirstNonDigitWrong : ChangeSpec := { name := "fnSkipDigitsFindsFirstNonDigit", fn := fun _ => fun
  | [d1, d2] => { results := [.lit (.bool false)], args := [d1, d2] }
  | _ => none }
def FnSkipDigitsFindsFirstNonDigitWrongFalsely : Prop := fnSkipDigitsFindsFirstNonDigitRow.holds Try.pinned (OpenSpec.ofChange fnSkipDigitsFindsFirstNonDigitWrong)

/-- 'zzlaws_decimal_b1.FnSkipDigitsSameRunSameEnd': WHATEVER THE INPUT: true; the input reads as it did. -/
def fnSkipDigitsSameRunSameEndSpec : ChangeSpec := { name := "fnSkipDigitsSameRunSameEnd", fn := fun _ => fun
  | [d1, d2, d3] => { results := [.lit (.bool true)], args := [d1, d2, d3] }
  | _ => none }
def fnSkipDigitsSameRunSameEndRow : OpenClaim := { program := "qxb6603896a", sum := "242b46b3214cf298408b37857be5de47b237c91c3bcd30c68fada5cd974efd76", func := "example.com/vestline/vestline/zzlaws_decimal_b1.FnSkipDigitsSameRunSameEnd", spec := "fnSkipDigitsSameRunSameEnd", apart := false }
def FnSkipDigitsSameRunSameEndSaid : Prop := fnSkipDigitsSameRunSameEndRow.holds Try.pinned (OpenSpec.ofChange fnSkipDigitsSameRunSameEndSpec)

/-- ITS FALSE NEIGHBOUR: 'it returns false'. Refute it at one input. -/
def fnSkipDigitsSameRunSameEndWrong : ChangeSpec := { name := "fnSkipDigitsSameRunSameEnd", fn := fun _ => fun
  | [d1, d2, d3] => { results := [.lit (.bool false)], args := [d1, d2, d3] }
  | _ => none }
def FnSkipDigitsSameRunSameEndWrongFalsely : Prop := fnSkipDigitsSameRunSameEndRow.holds Try.pinned (OpenSpec.ofChange fnSkipDigitsSameRunSameEndWrong)

end Rows
end Go.Proofs.Qxb6603896a
