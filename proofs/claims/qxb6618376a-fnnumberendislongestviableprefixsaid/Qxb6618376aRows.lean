/-
  No cell of these rows narrows 'for every input' (looked for: loops, veiled, ifaces, maps, wideKeys, modest, calm, conditions, laid).
  DERIVED. THE GIVEN ROWS OF THIS SEAT. 2 by the template 'for every input the law returns true; each argument reads behind the call as it read before'; 0 by the template 'total and deterministic' (their statements: Qxb6618376aTotals.lean).
  GIVEN WITH THE SEED: the statements are not yours to turn. If you find one false, say at which input.
  Laid BY PROGRAM, IN A SANDBOX (cutbox-rows.mjs): the forced cells as the released guide's own fill.sh prints them over the translation fb279f5748a8da39… (all of the seat's roots in one cut). By AI agents, Wed Nov 11 2026. No macro, syntax, notation, axiom, sorry.
-/
import Derived.Test.Qxb6618376aChecked
import GoSem.Claim
import GoSem.ClaimJoined
import GoSem.ClaimMapViews
import Derived.JoinedTies
import Derived.KernelRfl
namespace Go.Proofs.Qxb6618376a
/- THE CELL 'sum', in the pinned program and in every row, IS THE sha256 OF THE DUMP (.gsa) THAT Qxb6618376aProg.lean LOADS. Nothing in Lean hashes anything: it is a label: what it is worth is what the hold of that sum in a sandbox is worth. -/
noncomputable def Try.pinned : Pinned := { name := "qxb6618376a", sum := "fb279f5748a8da397bc176753fdba179c842f1d147e5a1d9d458ee8f81dcfe1b", checked := Try.checked }
namespace Rows
def none {H : Type} : Left H := { results := [], args := [] }

/-- 'zzlaws_root_b1.FnNumberEndIsLongestViablePrefix': WHATEVER THE INPUT: true; the input reads as it did. -/
def fnNumberEndIsLongestViablePrefixSpec : ChangeSpec := { name := "fnNumberEndIsLongestViablePrefix", fn := fun _ => fun
  | [d1, d2] => { results := [.lit (.bool true)], args := [d1, d2] }
  | _ => none }
def fnNumberEndIsLongestViablePrefixRow : OpenClaim := { program := "qxb6618376a", sum := "fb279f5748a8da397bc176753fdba179c842f1d147e5a1d9d458ee8f81dcfe1b", func := "example.com/libscrawl/libscrawl/zzlaws_root_b1.FnNumberEndIsLongestViablePrefix", spec := "fnNumberEndIsLongestViablePrefix", apart := false }
def FnNumberEndIsLongestViablePrefixSaid : Prop := fnNumberEndIsLongestViablePrefixRow.holds Try.pinned (OpenSpec.ofChange fnNumberEndIsLongestViablePrefixSpec)

/-- ITS FALSE NEIGHBOUR: 'it returns false'. Refute it at one input. -/
def fnNumberEndIsLongestViablePrefixWrong : ChangeSpec := { name := "fnNumberEndIsLongestViablePrefix", fn := fun _ => fun
  | [d1, d2] => { results := [.lit (.bool false)], args := [d1, d2] }
  | _ => none }
def FnNumberEndIsLongestViablePrefixWrongFalsely : Prop := fnNumberEndIsLongestViablePrefixRow.holds Try.pinned (OpenSpec.ofChange fnNumberEndIsLongestViablePrefixWrong)

/-- 'zzlaws_root_b1.FnNumberEndShiftsAndCuts': WHATEVER THE INPUT: true; the input reads as it did. -/
def fnNumberEndShiftsAndCutsSpec : ChangeSpec := { name := "fnNumberEndShiftsAndCuts", fn := fun _ => fun
  | [d1, d2, d3] => { results := [.lit (.bool true)], args := [d1, d2, d3] }
  | _ => none }
def fnNumberEndShiftsAndCutsRow : OpenClaim := { program := "qxb6618376a", sum := "fb279f5748a8da397bc176753fdba179c842f1d147e5a1d9d458ee8f81dcfe1b", func := "example.com/libscrawl/libscrawl/zzlaws_root_b1.FnNumberEndShiftsAndCuts", spec := "fnNumberEndShiftsAndCuts", apart := false }
def FnNumberEndShiftsAndCutsSaid : Prop := fnNumberEndShiftsAndCutsRow.holds Try.pinned (OpenSpec.ofChange fnNumberEndShiftsAndCutsSpec)

/-- ITS FALSE NEIGHBOUR: 'it returns false'. Refute it at one input. -/
def fnNumberEndShiftsAndCutsWrong : ChangeSpec := { name := "fnNumberEndShiftsAndCuts", fn := fun _ => fun
  | [d1, d2, d3] => { results := [.lit (.bool false)], args := [d1, d2, d3] }
  | _ => none }
def FnNumberEndShiftsAndCutsWrongFalsely : Prop := fnNumberEndShiftsAndCutsRow.holds Try.pinned (OpenSpec.ofChange fnNumberEndShiftsAndCutsWrong)

end Rows
end Go.Proofs.Qxb6618376a
