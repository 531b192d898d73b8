/-
  No cell of these rows narrows 'for every input' (looked for: loops, veiled, ifaces, maps, wideKeys, modest, calm, conditions, laid).
  DERIVED. THE GIVEN ROWS OF THIS SEAT. 3 by the template 'for every input the law returns true; each argument reads behind the call as it read before'; 0 by the template 'total and deterministic' (their statements: Qxb6618611aModsTotals.lean).
  GIVEN WITH THE SEED: the statements are not yours to turn. If you find one false, say at which input.
  Laid BY PROGRAM, IN A SANDBOX (cutbox-rows.mjs): the forced cells as the released guide's own fill.sh prints them over the translation 4938c6d974a25067… (all of the seat's roots in one cut). By AI agents, Wed Nov 11 2026. No macro, syntax, notation, axiom, sorry.
-/
import Derived.Test.Qxb6618611aModsChecked
import GoSem.Claim
import GoSem.ClaimJoined
import GoSem.ClaimMapViews
import Derived.JoinedTies
import Derived.KernelRfl
namespace Go.Proofs.Qxb6618611aMods
/- THE CELL 'sum', in the pinned program and in every row, IS THE sha256 OF THE DUMP (.gsa) THAT Qxb6618611aModsProg.lean LOADS. Nothing in Lean hashes anything: it is a label: what it is worth is what the hold of that sum in a sandbox is worth. -/
noncomputable def Trym.pinned : Pinned := { name := "qxb6618611amods", sum := "4938c6d974a25067c9e5cc18128645040f3c990d774e0021c9173a3db59eba77", checked := Trym.checked }
namespace Rows
def none {H : Type} : Left H := { results := [], args := [] }

/-- 'zzlaws_root_b1.FnNextCyclesThroughAllThree': WHATEVER THE INPUT: true; the input reads as it did. -/
def fnNextCyclesThroughAllThreeSpec : ChangeSpec := { name := "fnNextCyclesThroughAllThree", fn := fun _ => fun
  | [d] => { results := [.lit (.bool true)], args := [d] }
  | _ => none }
def fnNextCyclesThroughAllThreeRow : OpenClaim := { program := "qxb6618611amods", sum := "4938c6d974a25067c9e5cc18128645040f3c990d774e0021c9173a3db59eba77", func := "example.com/sketch-limits/sketch-limits/zzlaws_root_b1.FnNextCyclesThroughAllThree", spec := "fnNextCyclesThroughAllThree", make := .lifted ["publicsums"], apart := false }
def FnNextCyclesThroughAllThreeSaid : Prop := fnNextCyclesThroughAllThreeRow.holds Trym.pinned (OpenSpec.ofChange fnNextCyclesThroughAllThreeSpec)

/-- ITS FALSE NEIGHBOUR: 'it returns false'. Refute it at one input. -/
def fnNextCyclesThroughAllThreeWrong : ChangeSpec := { name := "fnNextCyclesThroughAllThree", fn := fun _ => fun
  | [d] => { results := [.lit (.bool false)], args := [d] }
  | _ => none }
def FnNextCyclesThroughAllThreeWrongFalsely : Prop := fnNextCyclesThroughAllThreeRow.holds Trym.pinned (OpenSpec.ofChange fnNextCyclesThroughAllThreeWrong)

/-- 'zzlaws_root_b1.FnNextHangsOnCurrentAlone': WHATEVER THE INPUT: true; the input reads as it did. -/
def fnNextHangsOnCurrentAloneSpec : ChangeSpec := { name := "fnNextHangsOnCurrentAlone", fn := fun _ => fun
  | [d1, d2] => { results := [.lit (.bool true)], args := [d1, d2] }
  | _ => none }
def fnNextHangsOnCurrentAloneRow : OpenClaim := { program := "qxb6618611amods", sum := "4938c6d974a25067c9e5cc18128645040f3c990d774e0021c9173a3db59eba77", func := "example.com/sketch-limits/sketch-limits/zzlaws_root_b1.FnNextHangsOnCurrentAlone", spec := "fnNextHangsOnCurrentAlone", make := .lifted ["publicsums"], apart := false }
def FnNextHangsOnCurrentAloneSaid : Prop := fnNextHangsOnCurrentAloneRow.holds Trym.pinned (OpenSpec.ofChange fnNextHangsOnCurrentAloneSpec)

/-- ITS FALSE NEIGHBOUR: 'it returns false'. Refute it at one input. -/
def fnNextHangsOnCurrentAloneWrong : ChangeSpec := { name := "fnNextHangsOnCurrentAlone", fn := fun _ => fun
  | [d1, d2] => { results := [.lit (.bool false)], args := [d1, d2] }
  | _ => none }
def FnNextHangsOnCurrentAloneWrongFalsely : Prop := fnNextHangsOnCurrentAloneRow.holds Trym.pinned (OpenSpec.ofChange fnNextHangsOnCurrentAloneWrong)

/-- 'zzlaws_root_b1.FnTakeAcceptsExactlyTheRoomLeft': WHATEVER THE INPUT: true; the input reads as it did. -/
def fnTakeAcceptsExactlyTheRoomLeftSpec : ChangeSpec := { name := "fnTakeAcceptsExactlyTheRoomLeft", fn := fun _ => fun
  | [d1, d2, d3] => { results := [.lit (.bool true)], args := [d1, d2, d3] }
  | _ => none }
def fnTakeAcceptsExactlyTheRoomLeftRow : OpenClaim := { program := "qxb6618611amods", sum := "4938c6d974a25067c9e5cc18128645040f3c990d774e0021c9173a3db59eba77", func := "example.com/sketch-limits/sketch-limits/zzlaws_root_b1.FnTakeAcceptsExactlyTheRoomLeft", spec := "fnTakeAcceptsExactlyTheRoomLeft", inPlace := ["sync/atomic.StoreInt64", "sync/atomic.LoadInt64", "sync/atomic.CompareAndSwapInt64"], make := .lifted ["publicsums"], apart := false }
def FnTakeAcceptsExactlyTheRoomLeftSaid : Prop := fnTakeAcceptsExactlyTheRoomLeftRow.holds Trym.pinned (OpenSpec.ofChange fnTakeAcceptsExactlyTheRoomLeftSpec)

/-- ITS FALSE NEIGHBOUR: 'it returns false'. Refute it at one input. -/
def fnTakeAcceptsExactlyTheRoomLeftWrong : ChangeSpec := { name := "fnTakeAcceptsExactlyTheRoomLeft", fn := fun _ => fun
  | [d1, d2, d3] => { results := [.lit (.bool false)], args := [d1, d2, d3] }
  | _ => none }
def FnTakeAcceptsExactlyTheRoomLeftWrongFalsely : Prop := fnTakeAcceptsExactlyTheRoomLeftRow.holds Trym.pinned (OpenSpec.ofChange fnTakeAcceptsExactlyTheRoomLeftWrong)

end Rows
end Go.Proofs.Qxb6618611aMods
