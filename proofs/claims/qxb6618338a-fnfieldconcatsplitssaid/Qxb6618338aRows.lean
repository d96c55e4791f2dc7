/-
  No cell of these rows narrows 'for every input' (looked for: loops, veiled, ifaces, maps, wideKeys, modest, calm, conditions, laid).
  DERIVED. THE GIVEN ROWS OF THIS SEAT. 2 by the template 'for every input the law returns true; each argument reads behind the call as it read before'; 0 by the template 'total and deterministic' (their statements: Qxb6618338aTotals.lean).
  GIVEN WITH THE SEED: the statements are not yours to turn. If you find one false, say at which input.
  Laid BY PROGRAM, IN A SANDBOX (cutbox-rows.mjs): the forced cells as the released guide's own fill.sh prints them over the translation 4025171a9b31e42e… (all of the seat's roots in one cut). By AI agents, Wed Nov 11 2026. No macro, syntax, notation, axiom, sorry.
-/
import Derived.Test.Qxb6618338aChecked
import GoSem.Claim
import GoSem.ClaimJoined
import GoSem.ClaimMapViews
import Derived.JoinedTies
import Derived.KernelRfl
namespace Go.Proofs.Qxb6618338a
/- THE CELL 'sum', in the pinned program and in every row, IS THE sha256 OF THE DUMP (.gsa) THAT Qxb6618338aProg.lean LOADS. Nothing in Lean hashes anything: it is a label: what it is worth is what the hold of that sum in a sandbox is worth. -/
noncomputable def Try.pinned : Pinned := { name := "qxb6618338a", sum := "4025171a9b31e42e603c44a217a56f01887f0cc1618a60372a0c549b0ee84a8d", checked := Try.checked }
namespace Rows
def none {H : Type} : Left H := { results := [], args := [] }

/-- 'zzlaws_internal_proc_b1.FnFieldInsertShifts': WHATEVER THE INPUT: true; the input reads as it did. -/
def fnFieldInsertShiftsSpec : ChangeSpec := { name := "fnFieldInsertShifts", fn := fun _ => fun
  | [d1, d2, d3, d4] => { results := [.lit (.bool true)], args := [d1, d2, d3, d4] }
  | _ => none }
def fnFieldInsertShiftsRow : OpenClaim := { program := "qxb6618338a", sum := "4025171a9b31e42e603c44a217a56f01887f0cc1618a60372a0c549b0ee84a8d", func := "example.com/phasewright/phasewright/zzlaws_internal_proc_b1.FnFieldInsertShifts", spec := "fnFieldInsertShifts", apart := false }
def FnFieldInsertShiftsSaid : Prop := fnFieldInsertShiftsRow.holds Try.pinned (OpenSpec.ofChange fnFieldInsertShiftsSpec)

/-- ITS FALSE NEIGHBOUR: 'it returns false'. Refute it at one input. -/
def fnFieldInsertShiftsWrong : ChangeSpec := { name := "fnFieldInsertShifts", fn := fun _ => fun
  | [d1, d2, d3, d4] => { results := [.lit (.bool false)], args := [d1, d2, d3, d4] }
  | _ => none }
def FnFieldInsertShiftsWrongFalsely : Prop := fnFieldInsertShiftsRow.holds Try.pinned (OpenSpec.ofChange fnFieldInsertShiftsWrong)

/-- 'zzlaws_internal_proc_b1.FnFieldConcatSplits': WHATEVER THE INPUT: true; the input reads as it did. -/
def fnFieldConcatSplitsSpec : ChangeSpec := { name := "fnFieldConcatSplits", fn := fun _ => fun
  | [d1, d2, d3] => { results := [.lit (.bool true)], args := [d1, d2, d3] }
  | _ => none }
def fnFieldConcatSplitsRow : OpenClaim := { program := "qxb6618338a", sum := "4025171a9b31e42e603c44a217a56f01887f0cc1618a60372a0c549b0ee84a8d", func := "example.com/phasewright/phasewright/zzlaws_internal_proc_b1.FnFieldConcatSplits", spec := "fnFieldConcatSplits", apart := false }
def FnFieldConcatSplitsSaid : Prop := fnFieldConcatSplitsRow.holds Try.pinned (OpenSpec.ofChange fnFieldConcatSplitsSpec)

/-- ITS FALSE NEIGHBOUR: 'it returns false'. Refute it at one input. -/
def fnFieldConcatSplitsWrong : ChangeSpec := { name := "fnFieldConcatSplits", fn := fun _ => fun
  | [d1, d2, d3] => { results := [.lit (.bool false)], args := [d1, d2, d3] }
  | _ => none }
def FnFieldConcatSplitsWrongFalsely : Prop := fnFieldConcatSplitsRow.holds Try.pinned (OpenSpec.ofChange fnFieldConcatSplitsWrong)

end Rows
end Go.Proofs.Qxb6618338a
