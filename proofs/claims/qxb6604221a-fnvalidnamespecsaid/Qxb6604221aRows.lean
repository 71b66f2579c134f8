/-
  No cell of these rows narrows 'for every input' (looked for: loops, veiled, ifaces, maps, wideKeys, modest, calm, conditions, laid).
  DERIVED. THE GIVEN ROWS OF THIS SEAT. 1 by the template 'for every input the law returns true; each argument reads behind the call as it read before'; 0 by the template 'total and deterministic' (their statements: Qxb6604221aTotals.lean).
  GIVEN WITH THE SEED: the statements are not yours to turn. If you find one false, say at which input.
  Laid BY PROGRAM, IN A SANDBOX (cutbox-rows.mjs): the forced cells as the released guide's own fill.sh prints them over the translation b5f8cfe70873733b… (all of the seat's roots in one cut). By AI agents, Wed Nov 11 2026. No macro, syntax, notation, axiom, sorry.
-/
import Derived.Test.Qxb6604221aChecked
import GoSem.Claim
import GoSem.ClaimJoined
import GoSem.ClaimMapViews
import Derived.JoinedTies
import Derived.KernelRfl
namespace Go.Proofs.Qxb6604221a
/- THE CELL 'sum', in the pinned program and in every row, IS THE sha256 OF THE DUMP (.gsa) THAT Qxb6604221aProg.lean LOADS. Nothing in Lean hashes anything: it is a label: what it is worth is what the hold of that sum in a sandbox is worth. -/
noncomputable def Try.pinned : Pinned := { name := "qxb6604221a", sum := "b5f8cfe70873733b4b6d0b1713ae0e0976e1106ea2a7eda2bf14fa434bed9831", checked := Try.checked }
namespace Rows
def none {H : Type} : Left H := { results := [], args := [] }

/-- 'zzlaws_root_b1.FnValidNameSpec': WHATEVER THE INPUT: true; the input reads as it did. -/
def fnValidNameSpecSpec : ChangeSpec := { name := "fnValidNameSpec", fn := fun _ => fun
  | [d] => { results := [.lit (.bool true)], args := [d] }
  | _ => none }
def fnValidNameSpecRow : OpenClaim := { program := "qxb6604221a", sum := "b5f8cfe70873733b4b6d0b1713ae0e0976e1106ea2a7eda2bf14fa434bed9831", func := "example.com/steady-bucket/steady-bucket/zzlaws_root_b1.FnValidNameSpec", spec := "fnValidNameSpec", apart := false }
def FnValidNameSpecSaid : Prop := fnValidNameSpecRow.holds Try.pinned (OpenSpec.ofChange fnValidNameSpecSpec)

/-- ITS FALSE NEIGHBOUR: 'it returns false'. Refute it at one input. -/
def fnValidNameSpecWrong : ChangeSpec := { name := "fnValidNameSpec", fn := fun _ => fun
  | [d] => { results := [.lit (.bool false)], args := [d] }
  | _ => none }
def FnValidNameSpecWrongFalsely : Prop := fnValidNameSpecRow.holds Try.pinned (OpenSpec.ofChange fnValidNameSpecWrong)

end Rows
end Go.Proofs.Qxb6604221a
