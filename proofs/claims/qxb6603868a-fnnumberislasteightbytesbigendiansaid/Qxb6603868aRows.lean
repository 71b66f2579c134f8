/-
  No cell of these rows narrows 'for every input' (looked for: loops, veiled, ifaces, maps, wideKeys, modest, calm, conditions, laid).
  DERIVED. THE GIVEN ROWS OF THIS SEAT. 2 by the template 'for every input the law returns true; each argument reads behind the call as it read before'; 0 by the template 'total and deterministic' (their statements: Qxb6603868aTotals.lean).
  GIVEN WITH THE SEED: the statements are not yours to turn. If you find one false, say at which input.
  Laid BY PROGRAM, IN A SANDBOX (cutbox-rows.mjs): the forced cells as the released guide's own fill.sh prints them over the translation a903889cd370f695… (all of the seat's roots in one cut). By AI agents, Wed Nov 11 2026. No macro, syntax, notation, axiom, sorry.
-/
import Derived.Test.Qxb6603868aChecked
import GoSem.Claim
import GoSem.ClaimJoined
import GoSem.ClaimMapViews
import Derived.JoinedTies
import Derived.KernelRfl
namespace Go.Proofs.Qxb6603868a
/- THE CELL 'sum', in the pinned program and in every row, IS THE sha256 OF THE DUMP (.gsa) THAT Qxb6603868aProg.lean LOADS. Nothing in Lean hashes anything: it is a label: what it is worth is what the hold of that sum in a sandbox is worth. -/
noncomputable def Try.pinned : Pinned := { name := "qxb6603868a", sum := "a903889cd370f6955cc9fa659cb232bb93618176c6723a92505e06fa05cc7823", checked := Try.checked }
namespace Rows
def none {H : Type} : Left H := { results := [], args := [] }

/-- 'zzlaws_root_b1.FnNumberIsLastEightBytesBigEndian': WHATEVER THE INPUT: true; the input reads as it did. -/
def fnNumberIsLastEightBytesBigEndianSpec : ChangeSpec := { name := "fnNumberIsLastEightBytesBigEndian", fn := fun _ => fun
  | [d] => { results := [.lit (.bool true)], args := [d] }
  | _ => none }
def fnNumberIsLastEightBytesBigEndianRow : OpenClaim := { program := "qxb6603868a", sum := "a903889cd370f6955cc9fa659cb232bb93618176c6723a92505e06fa05cc7823", func := "example.com/heptakey/heptakey/zzlaws_root_b1.FnNumberIsLastEightBytesBigEndian", spec := "fnNumberIsLastEightBytesBigEndian", apart := false }
def FnNumberIsLastEightBytesBigEndianSaid : Prop := fnNumberIsLastEightBytesBigEndianRow.holds Try.pinned (OpenSpec.ofChange fnNumberIsLastEightBytesBigEndianSpec)

/-- ITS FALSE NEIGHBOUR: 'it returns false'. Refute it at one input. -/
def fnNumberIsLastEightBytesBigEndianWrong : ChangeSpec := { name := "fnNumberIsLastEightBytesBigEndian", fn := fun _ => fun
  | [d] => { results := [.lit (.bool false)], args := [d] }
  | _ => none }
def FnNumberIsLastEightBytesBigEndianWrongFalsely : Prop := fnNumberIsLastEightBytesBigEndianRow.holds Try.pinned (OpenSpec.ofChange fnNumberIsLastEightBytesBigEndianWrong)

/-- 'zzlaws_root_b1.FnNumberInvertsBigEndianEncoding': WHATEVER THE INPUT: true; the input reads as it did. -/
def fnNumberInvertsBigEndianEncodingSpec : ChangeSpec := { name := "fnNumberInvertsBigEndianEncoding", fn := fun _ => fun
  | [d1, d2] => { results := [.lit (.bool true)], args := [d1, d2] }
  | _ => none }
def fnNumberInvertsBigEndianEncodingRow : OpenClaim := { program := "qxb6603868a", sum := "a903889cd370f6955cc9fa659cb232bb93618176c6723a92505e06fa05cc7823", func := "example.com/heptakey/heptakey/zzlaws_root_b1.FnNumberInvertsBigEndianEncoding", spec := "fnNumberInvertsBigEndianEncoding", apart := false }
def FnNumberInvertsBigEndianEncodingSaid : Prop := fnNumberInvertsBigEndianEncodingRow.holds Try.pinned (OpenSpec.ofChange fnNumberInvertsBigEndianEncodingSpec)

/-- ITS FALSE NEIGHBOUR: 'it returns false'. Refute it at one input. -/
def fnNumberInvertsBigEndianEncodingWrong : ChangeSpec := { name := "fnNumberInvertsBigEndianEncoding", fn := fun _ => fun
  | [d1, d2] => { results := [.lit (.bool false)], args := [d1, d2] }
  | _ => none }
def FnNumberInvertsBigEndianEncodingWrongFalsely : Prop := fnNumberInvertsBigEndianEncodingRow.holds Try.pinned (OpenSpec.ofChange fnNumberInvertsBigEndianEncodingWrong)

end Rows
end Go.Proofs.Qxb6603868a
