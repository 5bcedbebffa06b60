/-
  No cell of these rows narrows 'for every input' (looked for: loops, veiled, ifaces, maps, wideKeys, modest, calm, conditions, laid).
  DERIVED. THE GIVEN ROWS OF THIS SEAT. 4 by the template 'for every input the law returns true; each argument reads behind the call as it read before'; 0 by the template 'total and deterministic' (their statements: Qxb6617100aTotals.lean).
  GIVEN WITH THE SEED: the statements are not yours to turn. If you find one false, say at which input.
  Laid BY PROGRAM, IN A SANDBOX (cutbox-rows.mjs): the forced cells as the released guide's own fill.sh prints them over the translation f3570c097fe1c9f6… (all of the seat's roots in one cut). By AI agents, Wed Nov 11 2026. No macro, syntax, notation, axiom, sorry.
-/
import Derived.Test.Qxb6617100aChecked
import GoSem.Claim
import GoSem.ClaimJoined
import GoSem.ClaimMapViews
import Derived.JoinedTies
import Derived.KernelRfl
namespace Go.Proofs.Qxb6617100a
/- THE CELL 'sum', in the pinned program and in every row, IS THE sha256 OF THE DUMP (.gsa) THAT Qxb6617100aProg.lean LOADS. Nothing in Lean hashes anything: it is a label: what it is worth is what the hold of that sum in a sandbox is worth. -/
noncomputable def Try.pinned : Pinned := { name := "qxb6617100a", sum := "f3570c097fe1c9f6273beaa2a36a0288a20324011a753f62e19591e62db547b6", checked := Try.checked }
namespace Rows
def none {H : Type} : Left H := { results := [], args := [] }

/-- 'zzlaws_fountain_b1.FnFilledSplitsAtAnyCut': WHATEVER THE INPUT: true; the input reads as it did. -/
def fnFilledSplitsAtAnyCutSpec : ChangeSpec := { name := "fnFilledSplitsAtAnyCut", fn := fun _ => fun
  | [d1, d2, d3] => { results := [.lit (.bool true)], args := [d1, d2, d3] }
  | _ => none }
def fnFilledSplitsAtAnyCutRow : OpenClaim := { program := "qxb6617100a", sum := "f3570c097fe1c9f6273beaa2a36a0288a20324011a753f62e19591e62db547b6", func := "example.com/ferryline/ferryline/zzlaws_fountain_b1.FnFilledSplitsAtAnyCut", spec := "fnFilledSplitsAtAnyCut", apart := false }
def FnFilledSplitsAtAnyCutSaid : Prop := fnFilledSplitsAtAnyCutRow.holds Try.pinned (OpenSpec.ofChange fnFilledSplitsAtAnyCutSpec)

/-- ITS FALSE NEIGHBOUR: 'it returns false'. Refute it at one input. -/
def fnFilledSplitsAtAnyCutWrong : ChangeSpec := { name := "fnFilledSplitsAtAnyCut", fn := fun _ => fun
  | [d1, d2, d3] => { results := [.lit (.bool false)], args := [d1, d2, d3] }
  | _ => none }
def FnFilledSplitsAtAnyCutWrongFalsely : Prop := fnFilledSplitsAtAnyCutRow.holds Try.pinned (OpenSpec.ofChange fnFilledSplitsAtAnyCutWrong)

/-- 'zzlaws_fountain_b1.FnNextUnmixesToSteppedState': WHATEVER THE INPUT: true; the input reads as it did. -/
def fnNextUnmixesToSteppedStateSpec : ChangeSpec := { name := "fnNextUnmixesToSteppedState", fn := fun _ => fun
  | [d] => { results := [.lit (.bool true)], args := [d] }
  | _ => none }
def fnNextUnmixesToSteppedStateRow : OpenClaim := { program := "qxb6617100a", sum := "f3570c097fe1c9f6273beaa2a36a0288a20324011a753f62e19591e62db547b6", func := "example.com/ferryline/ferryline/zzlaws_fountain_b1.FnNextUnmixesToSteppedState", spec := "fnNextUnmixesToSteppedState", apart := false }
def FnNextUnmixesToSteppedStateSaid : Prop := fnNextUnmixesToSteppedStateRow.holds Try.pinned (OpenSpec.ofChange fnNextUnmixesToSteppedStateSpec)

/-- ITS FALSE NEIGHBOUR: 'it returns false'. Refute it at one input. -/
def fnNextUnmixesToSteppedStateWrong : ChangeSpec := { name := "fnNextUnmixesToSteppedState", fn := fun _ => fun
  | [d] => { results := [.lit (.bool false)], args := [d] }
  | _ => none }
def FnNextUnmixesToSteppedStateWrongFalsely : Prop := fnNextUnmixesToSteppedStateRow.holds Try.pinned (OpenSpec.ofChange fnNextUnmixesToSteppedStateWrong)

/-- 'zzlaws_fountain_b1.FnNextStreamSeeksByGamma': WHATEVER THE INPUT: true; the input reads as it did. -/
def fnNextStreamSeeksByGammaSpec : ChangeSpec := { name := "fnNextStreamSeeksByGamma", fn := fun _ => fun
  | [d1, d2] => { results := [.lit (.bool true)], args := [d1, d2] }
  | _ => none }
def fnNextStreamSeeksByGammaRow : OpenClaim := { program := "qxb6617100a", sum := "f3570c097fe1c9f6273beaa2a36a0288a20324011a753f62e19591e62db547b6", func := "example.com/ferryline/ferryline/zzlaws_fountain_b1.FnNextStreamSeeksByGamma", spec := "fnNextStreamSeeksByGamma", apart := false }
def FnNextStreamSeeksByGammaSaid : Prop := fnNextStreamSeeksByGammaRow.holds Try.pinned (OpenSpec.ofChange fnNextStreamSeeksByGammaSpec)

/-- ITS FALSE NEIGHBOUR: 'it returns false'. Refute it at one input. -/
def fnNextStreamSeeksByGammaWrong : ChangeSpec := { name := "fnNextStreamSeeksByGamma", fn := fun _ => fun
  | [d1, d2] => { results := [.lit (.bool false)], args := [d1, d2] }
  | _ => none }
def FnNextStreamSeeksByGammaWrongFalsely : Prop := fnNextStreamSeeksByGammaRow.holds Try.pinned (OpenSpec.ofChange fnNextStreamSeeksByGammaWrong)

/-- 'zzlaws_fountain_b1.FnDegreeIsLeastIntegerAboveSolitonBound': WHATEVER THE INPUT: true; the input reads as it did. -/
def fnDegreeIsLeastIntegerAboveSolitonBoundSpec : ChangeSpec := { name := "fnDegreeIsLeastIntegerAboveSolitonBound", fn := fun _ => fun
  | [d] => { results := [.lit (.bool true)], args := [d] }
  | _ => none }
def fnDegreeIsLeastIntegerAboveSolitonBoundRow : OpenClaim := { program := "qxb6617100a", sum := "f3570c097fe1c9f6273beaa2a36a0288a20324011a753f62e19591e62db547b6", func := "example.com/ferryline/ferryline/zzlaws_fountain_b1.FnDegreeIsLeastIntegerAboveSolitonBound", spec := "fnDegreeIsLeastIntegerAboveSolitonBound", apart := false }
def FnDegreeIsLeastIntegerAboveSolitonBoundSaid : Prop := fnDegreeIsLeastIntegerAboveSolitonBoundRow.holds Try.pinned (OpenSpec.ofChange fnDegreeIsLeastIntegerAboveSolitonBoundSpec)

/-- ITS FALSE NEIGHBOUR: 'it returns false'. Refute it at one input. -/
def fnDegreeIsLeastIntegerAboveSolitonBoundWrong : ChangeSpec := { name := "fnDegreeIsLeastIntegerAboveSolitonBound", fn := fun _ => fun
  | [d] => { results := [.lit (.bool false)], args := [d] }
  | _ => none }
def FnDegreeIsLeastIntegerAboveSolitonBoundWrongFalsely : Prop := fnDegreeIsLeastIntegerAboveSolitonBoundRow.holds Try.pinned (OpenSpec.ofChange fnDegreeIsLeastIntegerAboveSolitonBoundWrong)

end Rows
end Go.Proofs.Qxb6617100a
