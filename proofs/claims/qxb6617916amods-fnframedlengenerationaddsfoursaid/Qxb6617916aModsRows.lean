/-
  No cell of these rows narrows 'for every input' (looked for: loops, veiled, ifaces, maps, wideKeys, modest, calm, conditions, laid).
  DERIVED. THE GIVEN ROWS OF THIS SEAT. 2 by the template 'for every input the law returns true; each argument reads behind the call as it read before'; 0 by the template 'total and deterministic' (their statements: Qxb6617916aModsTotals.lean).
  GIVEN WITH THE SEED: the statements are not yours to turn. If you find one false, say at which input.
  Laid BY PROGRAM, IN A SANDBOX (cutbox-rows.mjs): the forced cells as the released guide's own fill.sh prints them over the translation bdf13ae78d41d2c1… (all of the seat's roots in one cut). By AI agents, Wed Nov 11 2026. No macro, syntax, notation, axiom, sorry.
-/
import Derived.Test.Qxb6617916aModsChecked
import GoSem.Claim
import GoSem.ClaimJoined
import GoSem.ClaimMapViews
import Derived.JoinedTies
import Derived.KernelRfl
namespace Go.Proofs.Qxb6617916aMods
/- THE CELL 'sum', in the pinned program and in every row, IS THE sha256 OF THE DUMP (.gsa) THAT Qxb6617916aModsProg.lean LOADS. Nothing in Lean hashes anything: it is a label: what it is worth is what the hold of that sum in a sandbox is worth. -/
noncomputable def Trym.pinned : Pinned := { name := "qxb6617916amods", sum := "bdf13ae78d41d2c1f8e52c39ebb63fa662c3384c72cde0b6853924634259b033", checked := Trym.checked }
namespace Rows
def none {H : Type} : Left H := { results := [], args := [] }

/-- 'zzlaws_internal_wal_b1.FnFramedLenGenerationAddsFour': WHATEVER THE INPUT: true; the input reads as it did. -/
def fnFramedLenGenerationAddsFourSpec : ChangeSpec := { name := "fnFramedLenGenerationAddsFour", fn := fun _ => fun
  | [d1, d2] => { results := [.lit (.bool true)], args := [d1, d2] }
  | _ => none }
def fnFramedLenGenerationAddsFourRow : OpenClaim := { program := "qxb6617916amods", sum := "bdf13ae78d41d2c1f8e52c39ebb63fa662c3384c72cde0b6853924634259b033", func := "example.com/concordat/concordat/zzlaws_internal_wal_b1.FnFramedLenGenerationAddsFour", spec := "fnFramedLenGenerationAddsFour", make := .lifted ["publicsums"], apart := false }
def FnFramedLenGenerationAddsFourSaid : Prop := fnFramedLenGenerationAddsFourRow.holds Trym.pinned (OpenSpec.ofChange fnFramedLenGenerationAddsFourSpec)

/-- ITS FALSE NEIGHBOUR: 'it returns false'. Refute it at one input. -/
def fnFramedLenGenerationAddsFourWrong : ChangeSpec := { name := "fnFramedLenGenerationAddsFour", fn := fun _ => fun
  | [d1, d2] => { results := [.lit (.bool false)], args := [d1, d2] }
  | _ => none }
def FnFramedLenGenerationAddsFourWrongFalsely : Prop := fnFramedLenGenerationAddsFourRow.holds Trym.pinned (OpenSpec.ofChange fnFramedLenGenerationAddsFourWrong)

/-- 'zzlaws_internal_wal_b1.FnFramedLenSplitAtAnyCut': WHATEVER THE INPUT: true; the input reads as it did. -/
def fnFramedLenSplitAtAnyCutSpec : ChangeSpec := { name := "fnFramedLenSplitAtAnyCut", fn := fun _ => fun
  | [d1, d2, d3] => { results := [.lit (.bool true)], args := [d1, d2, d3] }
  | _ => none }
def fnFramedLenSplitAtAnyCutRow : OpenClaim := { program := "qxb6617916amods", sum := "bdf13ae78d41d2c1f8e52c39ebb63fa662c3384c72cde0b6853924634259b033", func := "example.com/concordat/concordat/zzlaws_internal_wal_b1.FnFramedLenSplitAtAnyCut", spec := "fnFramedLenSplitAtAnyCut", make := .lifted ["publicsums"], apart := false }
def FnFramedLenSplitAtAnyCutSaid : Prop := fnFramedLenSplitAtAnyCutRow.holds Trym.pinned (OpenSpec.ofChange fnFramedLenSplitAtAnyCutSpec)

/-- ITS FALSE NEIGHBOUR: 'it returns false'. Refute it at one input. -/
def fnFramedLenSplitAtAnyCutWrong : ChangeSpec := { name := "fnFramedLenSplitAtAnyCut", fn := fun _ => fun
  | [d1, d2, d3] => { results := [.lit (.bool false)], args := [d1, d2, d3] }
  | _ => none }
def FnFramedLenSplitAtAnyCutWrongFalsely : Prop := fnFramedLenSplitAtAnyCutRow.holds Trym.pinned (OpenSpec.ofChange fnFramedLenSplitAtAnyCutWrong)

end Rows
end Go.Proofs.Qxb6617916aMods
