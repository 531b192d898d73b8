/-
  No cell of these rows narrows 'for every input' (looked for: loops, veiled, ifaces, maps, wideKeys, modest, calm, conditions, laid).
  DERIVED. THE GIVEN ROWS OF THIS SEAT. 2 by the template 'for every input the law returns true; each argument reads behind the call as it read before'; 0 by the template 'total and deterministic' (their statements: Qxb6605701aModsTotals.lean).
  GIVEN WITH THE SEED: the statements are not yours to turn. If you find one false, say at which input.
  Laid BY PROGRAM, IN A SANDBOX (cutbox-rows.mjs): the forced cells as the released guide's own fill.sh prints them over the translation f76c1929b928bf29… (all of the seat's roots in one cut). By AI agents, Wed Nov 11 2026. No macro, syntax, notation, axiom, sorry.
-/
import Derived.Test.Qxb6605701aModsChecked
import GoSem.Claim
import GoSem.ClaimJoined
import GoSem.ClaimMapViews
import Derived.JoinedTies
import Derived.KernelRfl
namespace Go.Proofs.Qxb6605701aMods
/- THE CELL 'sum', in the pinned program and in every row, IS THE sha256 OF THE DUMP (.gsa) THAT Qxb6605701aModsProg.lean LOADS. Nothing in Lean hashes anything: it is a label: what it is worth is what the hold of that sum in a sandbox is worth. -/
noncomputable def Trym.pinned : Pinned := { name := "qxb6605701amods", sum := "f76c1929b928bf29c94cad073738cc8c7931e9860f4b4ca2513d924d2c27dbc6", checked := Trym.checked }
namespace Rows
def none {H : Type} : Left H := { results := [], args := [] }

/-- 'zzlaws_daemon_b1.FnEndsWithAfterAppend': WHATEVER THE INPUT: true; the input reads as it did. -/
def fnEndsWithAfterAppendSpec : ChangeSpec := { name := "fnEndsWithAfterAppend", fn := fun _ => fun
  | [d1, d2, d3] => { results := [.lit (.bool true)], args := [d1, d2, d3] }
  | _ => none }
def fnEndsWithAfterAppendRow : OpenClaim := { program := "qxb6605701amods", sum := "f76c1929b928bf29c94cad073738cc8c7931e9860f4b4ca2513d924d2c27dbc6", func := "example.com/moot-relay/moot-relay/zzlaws_daemon_b1.FnEndsWithAfterAppend", spec := "fnEndsWithAfterAppend", make := .lifted ["publicsums"], apart := false }
def FnEndsWithAfterAppendSaid : Prop := fnEndsWithAfterAppendRow.holds Trym.pinned (OpenSpec.ofChange fnEndsWithAfterAppendSpec)

/-- ITS FALSE NEIGHBOUR: 'it returns false'. Refute it at one input. -/
def fnEndsWithAfterAppendWrong : ChangeSpec := { name := "fnEndsWithAfterAppend", fn := fun _ => fun
  | [d1, d2, d3] => { results := [.lit (.bool false)], args := [d1, d2, d3] }
  | _ => none }
def FnEndsWithAfterAppendWrongFalsely : Prop := fnEndsWithAfterAppendRow.holds Trym.pinned (OpenSpec.ofChange fnEndsWithAfterAppendWrong)

/-- 'zzlaws_daemon_b1.FnEndsWithCountsRole': WHATEVER THE INPUT: true; the input reads as it did. -/
def fnEndsWithCountsRoleSpec : ChangeSpec := { name := "fnEndsWithCountsRole", fn := fun _ => fun
  | [d1, d2] => { results := [.lit (.bool true)], args := [d1, d2] }
  | _ => none }
def fnEndsWithCountsRoleRow : OpenClaim := { program := "qxb6605701amods", sum := "f76c1929b928bf29c94cad073738cc8c7931e9860f4b4ca2513d924d2c27dbc6", func := "example.com/moot-relay/moot-relay/zzlaws_daemon_b1.FnEndsWithCountsRole", spec := "fnEndsWithCountsRole", make := .lifted ["publicsums"], apart := false }
def FnEndsWithCountsRoleSaid : Prop := fnEndsWithCountsRoleRow.holds Trym.pinned (OpenSpec.ofChange fnEndsWithCountsRoleSpec)

/-- ITS FALSE NEIGHBOUR: 'it returns false'. Refute it at one input. -/
def fnEndsWithCountsRoleWrong : ChangeSpec := { name := "fnEndsWithCountsRole", fn := fun _ => fun
  | [d1, d2] => { results := [.lit (.bool false)], args := [d1, d2] }
  | _ => none }
def FnEndsWithCountsRoleWrongFalsely : Prop := fnEndsWithCountsRoleRow.holds Trym.pinned (OpenSpec.ofChange fnEndsWithCountsRoleWrong)

end Rows
end Go.Proofs.Qxb6605701aMods
