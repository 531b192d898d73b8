/-
  No cell of these rows narrows 'for every input' (looked for: loops, veiled, ifaces, maps, wideKeys, modest, calm, conditions, laid).
  DERIVED. THE GIVEN ROWS OF THIS SEAT. 4 by the template 'for every input the law returns true; each argument reads behind the call as it read before'; 0 by the template 'total and deterministic' (their statements: Qxb6619055aModsTotals.lean).
  GIVEN WITH THE SEED: the statements are not yours to turn. If you find one false, say at which input.
  Laid BY PROGRAM, IN A SANDBOX (cutbox-rows.mjs): the forced cells as the released guide's own fill.sh prints them over the translation 7c2e8fcef00c4194… (all of the seat's roots in one cut). By AI agents, Wed Nov 11 2026. No macro, syntax, notation, axiom, sorry.
-/
import Derived.Test.Qxb6619055aModsChecked
import GoSem.Claim
import GoSem.ClaimJoined
import GoSem.ClaimMapViews
import Derived.JoinedTies
import Derived.KernelRfl
namespace Go.Proofs.Qxb6619055aMods
/- THE CELL 'sum', in the pinned program and in every row, IS THE sha256 OF THE DUMP (.gsa) THAT Qxb6619055aModsProg.lean LOADS. Nothing in Lean hashes anything: it is a label: what it is worth is what the hold of that sum in a sandbox is worth. -/
noncomputable def Trym.pinned : Pinned := { name := "qxb6619055amods", sum := "7c2e8fcef00c4194c6ec4ca080ac5d5c4e8dd647a90a0f9e261291925514de8b", checked := Trym.checked }
namespace Rows
def none {H : Type} : Left H := { results := [], args := [] }

/-- 'zzlaws_kube_b1.FnRefOfNameWinsOverGenerateName': WHATEVER THE INPUT: true; the input reads as it did. -/
def fnRefOfNameWinsOverGenerateNameSpec : ChangeSpec := { name := "fnRefOfNameWinsOverGenerateName", fn := fun _ => fun
  | [d1, d2, d3, d4] => { results := [.lit (.bool true)], args := [d1, d2, d3, d4] }
  | _ => none }
def fnRefOfNameWinsOverGenerateNameRow : OpenClaim := { program := "qxb6619055amods", sum := "7c2e8fcef00c4194c6ec4ca080ac5d5c4e8dd647a90a0f9e261291925514de8b", func := "example.com/pillion/pillion/zzlaws_kube_b1.FnRefOfNameWinsOverGenerateName", spec := "fnRefOfNameWinsOverGenerateName", make := .lifted ["publicsums"], apart := false }
def FnRefOfNameWinsOverGenerateNameSaid : Prop := fnRefOfNameWinsOverGenerateNameRow.holds Trym.pinned (OpenSpec.ofChange fnRefOfNameWinsOverGenerateNameSpec)

/-- ITS FALSE NEIGHBOUR: 'it returns false'. Refute it at one input. -/
def fnRefOfNameWinsOverGenerateNameWrong : ChangeSpec := { name := "fnRefOfNameWinsOverGenerateName", fn := fun _ => fun
  | [d1, d2, d3, d4] => { results := [.lit (.bool false)], args := [d1, d2, d3, d4] }
  | _ => none }
def FnRefOfNameWinsOverGenerateNameWrongFalsely : Prop := fnRefOfNameWinsOverGenerateNameRow.holds Trym.pinned (OpenSpec.ofChange fnRefOfNameWinsOverGenerateNameWrong)

/-- 'zzlaws_kube_b1.FnRefOfTakesOnlyStrings': WHATEVER THE INPUT: true; the input reads as it did. -/
def fnRefOfTakesOnlyStringsSpec : ChangeSpec := { name := "fnRefOfTakesOnlyStrings", fn := fun _ => fun
  | [d1, d2, d3] => { results := [.lit (.bool true)], args := [d1, d2, d3] }
  | _ => none }
def fnRefOfTakesOnlyStringsRow : OpenClaim := { program := "qxb6619055amods", sum := "7c2e8fcef00c4194c6ec4ca080ac5d5c4e8dd647a90a0f9e261291925514de8b", func := "example.com/pillion/pillion/zzlaws_kube_b1.FnRefOfTakesOnlyStrings", spec := "fnRefOfTakesOnlyStrings", make := .lifted ["publicsums"], apart := false }
def FnRefOfTakesOnlyStringsSaid : Prop := fnRefOfTakesOnlyStringsRow.holds Trym.pinned (OpenSpec.ofChange fnRefOfTakesOnlyStringsSpec)

/-- ITS FALSE NEIGHBOUR: 'it returns false'. Refute it at one input. -/
def fnRefOfTakesOnlyStringsWrong : ChangeSpec := { name := "fnRefOfTakesOnlyStrings", fn := fun _ => fun
  | [d1, d2, d3] => { results := [.lit (.bool false)], args := [d1, d2, d3] }
  | _ => none }
def FnRefOfTakesOnlyStringsWrongFalsely : Prop := fnRefOfTakesOnlyStringsRow.holds Trym.pinned (OpenSpec.ofChange fnRefOfTakesOnlyStringsWrong)

/-- 'zzlaws_kube_b1.FnPathStringCutAnywhere': WHATEVER THE INPUT: true; the input reads as it did. -/
def fnPathStringCutAnywhereSpec : ChangeSpec := { name := "fnPathStringCutAnywhere", fn := fun _ => fun
  | [d1, d2, d3] => { results := [.lit (.bool true)], args := [d1, d2, d3] }
  | _ => none }
def fnPathStringCutAnywhereRow : OpenClaim := { program := "qxb6619055amods", sum := "7c2e8fcef00c4194c6ec4ca080ac5d5c4e8dd647a90a0f9e261291925514de8b", func := "example.com/pillion/pillion/zzlaws_kube_b1.FnPathStringCutAnywhere", spec := "fnPathStringCutAnywhere", make := .lifted ["publicsums"], apart := false }
def FnPathStringCutAnywhereSaid : Prop := fnPathStringCutAnywhereRow.holds Trym.pinned (OpenSpec.ofChange fnPathStringCutAnywhereSpec)

/-- ITS FALSE NEIGHBOUR: 'it returns false'. Refute it at one input. -/
def fnPathStringCutAnywhereWrong : ChangeSpec := { name := "fnPathStringCutAnywhere", fn := fun _ => fun
  | [d1, d2, d3] => { results := [.lit (.bool false)], args := [d1, d2, d3] }
  | _ => none }
def FnPathStringCutAnywhereWrongFalsely : Prop := fnPathStringCutAnywhereRow.holds Trym.pinned (OpenSpec.ofChange fnPathStringCutAnywhereWrong)

/-- 'zzlaws_kube_b1.FnPathStringIgnoresWhole': WHATEVER THE INPUT: true; the input reads as it did. -/
def fnPathStringIgnoresWholeSpec : ChangeSpec := { name := "fnPathStringIgnoresWhole", fn := fun _ => fun
  | [d1, d2, d3] => { results := [.lit (.bool true)], args := [d1, d2, d3] }
  | _ => none }
def fnPathStringIgnoresWholeRow : OpenClaim := { program := "qxb6619055amods", sum := "7c2e8fcef00c4194c6ec4ca080ac5d5c4e8dd647a90a0f9e261291925514de8b", func := "example.com/pillion/pillion/zzlaws_kube_b1.FnPathStringIgnoresWhole", spec := "fnPathStringIgnoresWhole", make := .lifted ["publicsums"], apart := false }
def FnPathStringIgnoresWholeSaid : Prop := fnPathStringIgnoresWholeRow.holds Trym.pinned (OpenSpec.ofChange fnPathStringIgnoresWholeSpec)

/-- ITS FALSE NEIGHBOUR: 'it returns false'. Refute it at one input. -/
def fnPathStringIgnoresWholeWrong : ChangeSpec := { name := "fnPathStringIgnoresWhole", fn := fun _ => fun
  | [d1, d2, d3] => { results := [.lit (.bool false)], args := [d1, d2, d3] }
  | _ => none }
def FnPathStringIgnoresWholeWrongFalsely : Prop := fnPathStringIgnoresWholeRow.holds Trym.pinned (OpenSpec.ofChange fnPathStringIgnoresWholeWrong)

end Rows
end Go.Proofs.Qxb6619055aMods
