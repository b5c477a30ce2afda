/-
  No cell of these rows narrows 'for every input' (looked for: loops, veiled, ifaces, maps, wideKeys, modest, calm, conditions, laid).
  DERIVED. THE GIVEN ROWS OF THIS SEAT. 6 by the template 'for every input the law returns true; each argument reads behind the call as it read before'; 0 by the template 'total and deterministic' (their statements: Qxb6000582aTotals.lean).
  GIVEN WITH THE SEED: the statements are not yours to turn. If you find one false, say at which input.
  Laid BY PROGRAM, IN A SANDBOX (cutbox-rows.mjs): the forced cells as the released guide's own fill.sh prints them over the translation a340deb860585af5… (all of the seat's roots in one cut). By AI agents, Wed Nov 11 2026. No macro, syntax, notation, axiom, sorry.
-/
import Derived.Test.Qxb6000582aChecked
import GoSem.Claim
import GoSem.ClaimJoined
import GoSem.ClaimMapViews
import Derived.JoinedTies
import Derived.KernelRfl
namespace Go.Proofs.Qxb6000582a
/- THE CELL 'sum', in the pinned program and in every row, IS THE sha256 OF THE DUMP (.gsa) THAT Qxb6000582aProg.lean LOADS. Nothing in Lean hashes anything: it is a label: what it is worth is what the hold of that sum in a sandbox is worth. -/
noncomputable def Try.pinned : Pinned := { name := "qxb6000582a", sum := "a340deb860585af5ba681e8a75c24836b3b11a36894bd59f1813a816a52fd874", checked := Try.checked }
namespace Rows
def none {H : Type} : Left H := { results := [], args := [] }

/-- 'zzlaws_root_b1.FnNextNameSplitsLine': WHATEVER THE INPUT: true; the input reads as it did. -/
def fnNextNameSplitsLineSpec : ChangeSpec := { name := "fnNextNameSplitsLine", fn := fun _ => fun
  | [d] => { results := [.lit (.bool true)], args := [d] }
  | _ => none }
def fnNextNameSplitsLineRow : OpenClaim := { program := "qxb6000582a", sum := "a340deb860585af5ba681e8a75c24836b3b11a36894bd59f1813a816a52fd874", func := "example.com/statewright/statewright/zzlaws_root_b1.FnNextNameSplitsLine", spec := "fnNextNameSplitsLine", apart := false }
def FnNextNameSplitsLineSaid : Prop := fnNextNameSplitsLineRow.holds Try.pinned (OpenSpec.ofChange fnNextNameSplitsLineSpec)

/-- ITS FALSE NEIGHBOUR: 'it returns false'. Refute it at one input. -/
def fnNextNameSplitsLineWrong : ChangeSpec := { name := "fnNextNameSplitsLine", fn := fun _ => fun
  | [d] => { results := [.lit (.bool false)], args := [d] }
  | _ => none }
def FnNextNameSplitsLineWrongFalsely : Prop := fnNextNameSplitsLineRow.holds Try.pinned (OpenSpec.ofChange fnNextNameSplitsLineWrong)

/-- 'zzlaws_root_b1.FnNextNameFieldsAgree': WHATEVER THE INPUT: true; the input reads as it did. -/
def fnNextNameFieldsAgreeSpec : ChangeSpec := { name := "fnNextNameFieldsAgree", fn := fun _ => fun
  | [d] => { results := [.lit (.bool true)], args := [d] }
  | _ => none }
def fnNextNameFieldsAgreeRow : OpenClaim := { program := "qxb6000582a", sum := "a340deb860585af5ba681e8a75c24836b3b11a36894bd59f1813a816a52fd874", func := "example.com/statewright/statewright/zzlaws_root_b1.FnNextNameFieldsAgree", spec := "fnNextNameFieldsAgree", apart := false }
def FnNextNameFieldsAgreeSaid : Prop := fnNextNameFieldsAgreeRow.holds Try.pinned (OpenSpec.ofChange fnNextNameFieldsAgreeSpec)

/-- ITS FALSE NEIGHBOUR: 'it returns false'. Refute it at one input. -/
def fnNextNameFieldsAgreeWrong : ChangeSpec := { name := "fnNextNameFieldsAgree", fn := fun _ => fun
  | [d] => { results := [.lit (.bool false)], args := [d] }
  | _ => none }
def FnNextNameFieldsAgreeWrongFalsely : Prop := fnNextNameFieldsAgreeRow.holds Try.pinned (OpenSpec.ofChange fnNextNameFieldsAgreeWrong)

/-- 'zzlaws_root_b1.FnNextNameIgnoresPaddingAndTail': WHATEVER THE INPUT: true; the input reads as it did. -/
def fnNextNameIgnoresPaddingAndTailSpec : ChangeSpec := { name := "fnNextNameIgnoresPaddingAndTail", fn := fun _ => fun
  | [d1, d2, d3] => { results := [.lit (.bool true)], args := [d1, d2, d3] }
  | _ => none }
def fnNextNameIgnoresPaddingAndTailRow : OpenClaim := { program := "qxb6000582a", sum := "a340deb860585af5ba681e8a75c24836b3b11a36894bd59f1813a816a52fd874", func := "example.com/statewright/statewright/zzlaws_root_b1.FnNextNameIgnoresPaddingAndTail", spec := "fnNextNameIgnoresPaddingAndTail", apart := false }
def FnNextNameIgnoresPaddingAndTailSaid : Prop := fnNextNameIgnoresPaddingAndTailRow.holds Try.pinned (OpenSpec.ofChange fnNextNameIgnoresPaddingAndTailSpec)

/-- ITS FALSE NEIGHBOUR: 'it returns false'. Refute it at one input. -/
def fnNextNameIgnoresPaddingAndTailWrong : ChangeSpec := { name := "fnNextNameIgnoresPaddingAndTail", fn := fun _ => fun
  | [d1, d2, d3] => { results := [.lit (.bool false)], args := [d1, d2, d3] }
  | _ => none }
def FnNextNameIgnoresPaddingAndTailWrongFalsely : Prop := fnNextNameIgnoresPaddingAndTailRow.holds Try.pinned (OpenSpec.ofChange fnNextNameIgnoresPaddingAndTailWrong)

/-- 'zzlaws_root_b1.FnAdjacentMatchesEdges': WHATEVER THE INPUT: true; the input reads as it did. -/
def fnAdjacentMatchesEdgesSpec : ChangeSpec := { name := "fnAdjacentMatchesEdges", fn := fun _ => fun
  | [d1, d2, d3] => { results := [.lit (.bool true)], args := [d1, d2, d3] }
  | _ => none }
def fnAdjacentMatchesEdgesRow : OpenClaim := { program := "qxb6000582a", sum := "a340deb860585af5ba681e8a75c24836b3b11a36894bd59f1813a816a52fd874", func := "example.com/statewright/statewright/zzlaws_root_b1.FnAdjacentMatchesEdges", spec := "fnAdjacentMatchesEdges", recurses := true, apart := false }
def FnAdjacentMatchesEdgesSaid : Prop := fnAdjacentMatchesEdgesRow.holds Try.pinned (OpenSpec.ofChange fnAdjacentMatchesEdgesSpec)

/-- ITS FALSE NEIGHBOUR: 'it returns false'. Refute it at one input. -/
def fnAdjacentMatchesEdgesWrong : ChangeSpec := { name := "fnAdjacentMatchesEdges", fn := fun _ => fun
  | [d1, d2, d3] => { results := [.lit (.bool false)], args := [d1, d2, d3] }
  | _ => none }
def FnAdjacentMatchesEdgesWrongFalsely : Prop := fnAdjacentMatchesEdgesRow.holds Try.pinned (OpenSpec.ofChange fnAdjacentMatchesEdgesWrong)

/-- 'zzlaws_root_b1.FnAdjacentTranspose': WHATEVER THE INPUT: true; the input reads as it did. -/
def fnAdjacentTransposeSpec : ChangeSpec := { name := "fnAdjacentTranspose", fn := fun _ => fun
  | [d1, d2] => { results := [.lit (.bool true)], args := [d1, d2] }
  | _ => none }
def fnAdjacentTransposeRow : OpenClaim := { program := "qxb6000582a", sum := "a340deb860585af5ba681e8a75c24836b3b11a36894bd59f1813a816a52fd874", func := "example.com/statewright/statewright/zzlaws_root_b1.FnAdjacentTranspose", spec := "fnAdjacentTranspose", recurses := true, apart := false }
def FnAdjacentTransposeSaid : Prop := fnAdjacentTransposeRow.holds Try.pinned (OpenSpec.ofChange fnAdjacentTransposeSpec)

/-- ITS FALSE NEIGHBOUR: 'it returns false'. Refute it at one input. -/
def fnAdjacentTransposeWrong : ChangeSpec := { name := "fnAdjacentTranspose", fn := fun _ => fun
  | [d1, d2] => { results := [.lit (.bool false)], args := [d1, d2] }
  | _ => none }
def FnAdjacentTransposeWrongFalsely : Prop := fnAdjacentTransposeRow.holds Try.pinned (OpenSpec.ofChange fnAdjacentTransposeWrong)

/-- 'zzlaws_root_b1.FnAdjacentIgnoresOrderAndRepeats': WHATEVER THE INPUT: true; the input reads as it did. -/
def fnAdjacentIgnoresOrderAndRepeatsSpec : ChangeSpec := { name := "fnAdjacentIgnoresOrderAndRepeats", fn := fun _ => fun
  | [d1, d2, d3] => { results := [.lit (.bool true)], args := [d1, d2, d3] }
  | _ => none }
def fnAdjacentIgnoresOrderAndRepeatsRow : OpenClaim := { program := "qxb6000582a", sum := "a340deb860585af5ba681e8a75c24836b3b11a36894bd59f1813a816a52fd874", func := "example.com/statewright/statewright/zzlaws_root_b1.FnAdjacentIgnoresOrderAndRepeats", spec := "fnAdjacentIgnoresOrderAndRepeats", recurses := true, apart := false }
def FnAdjacentIgnoresOrderAndRepeatsSaid : Prop := fnAdjacentIgnoresOrderAndRepeatsRow.holds Try.pinned (OpenSpec.ofChange fnAdjacentIgnoresOrderAndRepeatsSpec)

/-- ITS FALSE NEIGHBOUR: 'it returns false'. Refute it at one input. -/
def fnAdjacentIgnoresOrderAndRepeatsWrong : ChangeSpec := { name := "fnAdjacentIgnoresOrderAndRepeats", fn := fun _ => fun
  | [d1, d2, d3] => { results := [.lit (.bool false)], args := [d1, d2, d3] }
  | _ => none }
def FnAdjacentIgnoresOrderAndRepeatsWrongFalsely : Prop := fnAdjacentIgnoresOrderAndRepeatsRow.holds Try.pinned (OpenSpec.ofChange fnAdjacentIgnoresOrderAndRepeatsWrong)

end Rows
end Go.Proofs.Qxb6000582a
