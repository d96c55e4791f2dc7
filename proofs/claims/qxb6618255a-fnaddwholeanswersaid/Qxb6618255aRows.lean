/-
  No cell of these rows narrows 'for every input' (looked for: loops, veiled, ifaces, maps, wideKeys, modest, calm, conditions, laid).
  DERIVED. THE GIVEN ROWS OF THIS SEAT. 4 by the template 'for every input the law returns true; each argument reads behind the call as it read before'; 0 by the template 'total and deterministic' (their statements: Qxb6618255aTotals.lean).
  GIVEN WITH THE SEED: the statements are not yours to turn. If you find one false, say at which input.
  Laid BY PROGRAM, IN A SANDBOX (cutbox-rows.mjs): the forced cells as the released guide's own fill.sh prints them over the translation b3a33a9cd8bf3853… (all of the seat's roots in one cut). By AI agents, Wed Nov 11 2026. No macro, syntax, notation, axiom, sorry.
-/
import Derived.Test.Qxb6618255aChecked
import GoSem.Claim
import GoSem.ClaimJoined
import GoSem.ClaimMapViews
import Derived.JoinedTies
import Derived.KernelRfl
namespace Go.Proofs.Qxb6618255a
/- THE CELL 'sum', in the pinned program and in every row, IS THE sha256 OF THE DUMP (.gsa) THAT Qxb6618255aProg.lean LOADS. Nothing in Lean hashes anything: it is a label: what it is worth is what the hold of that sum in a sandbox is worth. -/
noncomputable def Try.pinned : Pinned := { name := "qxb6618255a", sum := "b3a33a9cd8bf385330ba07f73ca4de899b69e1bb608768787e1b8469dbf4997b", checked := Try.checked }
namespace Rows
def none {H : Type} : Left H := { results := [], args := [] }

/-- 'zzlaws_pkg_jsonform_b1.FnNextLandsOnFirstTokenAtAnyCut': WHATEVER THE INPUT: true; the input reads as it did. -/
def fnNextLandsOnFirstTokenAtAnyCutSpec : ChangeSpec := { name := "fnNextLandsOnFirstTokenAtAnyCut", fn := fun _ => fun
  | [d1, d2, d3] => { results := [.lit (.bool true)], args := [d1, d2, d3] }
  | _ => none }
def fnNextLandsOnFirstTokenAtAnyCutRow : OpenClaim := { program := "qxb6618255a", sum := "b3a33a9cd8bf385330ba07f73ca4de899b69e1bb608768787e1b8469dbf4997b", func := "example.com/tessera/tessera/zzlaws_pkg_jsonform_b1.FnNextLandsOnFirstTokenAtAnyCut", spec := "fnNextLandsOnFirstTokenAtAnyCut", apart := false }
def FnNextLandsOnFirstTokenAtAnyCutSaid : Prop := fnNextLandsOnFirstTokenAtAnyCutRow.holds Try.pinned (OpenSpec.ofChange fnNextLandsOnFirstTokenAtAnyCutSpec)

/-- ITS FALSE NEIGHBOUR: 'it returns false'. Refute it at one input. -/
def fnNextLandsOnFirstTokenAtAnyCutWrong : ChangeSpec := { name := "fnNextLandsOnFirstTokenAtAnyCut", fn := fun _ => fun
  | [d1, d2, d3] => { results := [.lit (.bool false)], args := [d1, d2, d3] }
  | _ => none }
def FnNextLandsOnFirstTokenAtAnyCutWrongFalsely : Prop := fnNextLandsOnFirstTokenAtAnyCutRow.holds Try.pinned (OpenSpec.ofChange fnNextLandsOnFirstTokenAtAnyCutWrong)

/-- 'zzlaws_pkg_jsonform_b1.FnNextSkipsInsertedWhiteSpace': WHATEVER THE INPUT: true; the input reads as it did. -/
def fnNextSkipsInsertedWhiteSpaceSpec : ChangeSpec := { name := "fnNextSkipsInsertedWhiteSpace", fn := fun _ => fun
  | [d1, d2, d3] => { results := [.lit (.bool true)], args := [d1, d2, d3] }
  | _ => none }
def fnNextSkipsInsertedWhiteSpaceRow : OpenClaim := { program := "qxb6618255a", sum := "b3a33a9cd8bf385330ba07f73ca4de899b69e1bb608768787e1b8469dbf4997b", func := "example.com/tessera/tessera/zzlaws_pkg_jsonform_b1.FnNextSkipsInsertedWhiteSpace", spec := "fnNextSkipsInsertedWhiteSpace", apart := false }
def FnNextSkipsInsertedWhiteSpaceSaid : Prop := fnNextSkipsInsertedWhiteSpaceRow.holds Try.pinned (OpenSpec.ofChange fnNextSkipsInsertedWhiteSpaceSpec)

/-- ITS FALSE NEIGHBOUR: 'it returns false'. Refute it at one input. -/
def fnNextSkipsInsertedWhiteSpaceWrong : ChangeSpec := { name := "fnNextSkipsInsertedWhiteSpace", fn := fun _ => fun
  | [d1, d2, d3] => { results := [.lit (.bool false)], args := [d1, d2, d3] }
  | _ => none }
def FnNextSkipsInsertedWhiteSpaceWrongFalsely : Prop := fnNextSkipsInsertedWhiteSpaceRow.holds Try.pinned (OpenSpec.ofChange fnNextSkipsInsertedWhiteSpaceWrong)

/-- 'zzlaws_pkg_jsonform_b1.FnAddWholeAnswer': WHATEVER THE INPUT: true; the input reads as it did. -/
def fnAddWholeAnswerSpec : ChangeSpec := { name := "fnAddWholeAnswer", fn := fun _ => fun
  | [d1, d2, d3, d4] => { results := [.lit (.bool true)], args := [d1, d2, d3, d4] }
  | _ => none }
def fnAddWholeAnswerRow : OpenClaim := { program := "qxb6618255a", sum := "b3a33a9cd8bf385330ba07f73ca4de899b69e1bb608768787e1b8469dbf4997b", func := "example.com/tessera/tessera/zzlaws_pkg_jsonform_b1.FnAddWholeAnswer", spec := "fnAddWholeAnswer", apart := false }
def FnAddWholeAnswerSaid : Prop := fnAddWholeAnswerRow.holds Try.pinned (OpenSpec.ofChange fnAddWholeAnswerSpec)

/-- ITS FALSE NEIGHBOUR: 'it returns false'. Refute it at one input. -/
def fnAddWholeAnswerWrong : ChangeSpec := { name := "fnAddWholeAnswer", fn := fun _ => fun
  | [d1, d2, d3, d4] => { results := [.lit (.bool false)], args := [d1, d2, d3, d4] }
  | _ => none }
def FnAddWholeAnswerWrongFalsely : Prop := fnAddWholeAnswerRow.holds Try.pinned (OpenSpec.ofChange fnAddWholeAnswerWrong)

/-- 'zzlaws_pkg_jsonform_b1.FnAddScriptReportsExactlyTheRepeats': WHATEVER THE INPUT: true; the input reads as it did. -/
def fnAddScriptReportsExactlyTheRepeatsSpec : ChangeSpec := { name := "fnAddScriptReportsExactlyTheRepeats", fn := fun _ => fun
  | [d1, d2] => { results := [.lit (.bool true)], args := [d1, d2] }
  | _ => none }
def fnAddScriptReportsExactlyTheRepeatsRow : OpenClaim := { program := "qxb6618255a", sum := "b3a33a9cd8bf385330ba07f73ca4de899b69e1bb608768787e1b8469dbf4997b", func := "example.com/tessera/tessera/zzlaws_pkg_jsonform_b1.FnAddScriptReportsExactlyTheRepeats", spec := "fnAddScriptReportsExactlyTheRepeats", apart := false }
def FnAddScriptReportsExactlyTheRepeatsSaid : Prop := fnAddScriptReportsExactlyTheRepeatsRow.holds Try.pinned (OpenSpec.ofChange fnAddScriptReportsExactlyTheRepeatsSpec)

/-- ITS FALSE NEIGHBOUR: 'it returns false'. Refute it at one input. -/
def fnAddScriptReportsExactlyTheRepeatsWrong : ChangeSpec := { name := "fnAddScriptReportsExactlyTheRepeats", fn := fun _ => fun
  | [d1, d2] => { results := [.lit (.bool false)], args := [d1, d2] }
  | _ => none }
def FnAddScriptReportsExactlyTheRepeatsWrongFalsely : Prop := fnAddScriptReportsExactlyTheRepeatsRow.holds Try.pinned (OpenSpec.ofChange fnAddScriptReportsExactlyTheRepeatsWrong)

end Rows
end Go.Proofs.Qxb6618255a
