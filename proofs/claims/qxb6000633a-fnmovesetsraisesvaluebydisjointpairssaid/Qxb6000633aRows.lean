/-
  No cell of these rows narrows 'for every input' (looked for: loops, veiled, ifaces, maps, wideKeys, modest, calm, conditions, laid).
  DERIVED. THE GIVEN ROWS OF THIS SEAT. 6 by the template 'for every input the law returns true; each argument reads behind the call as it read before'; 0 by the template 'total and deterministic' (their statements: Qxb6000633aTotals.lean).
  GIVEN WITH THE SEED: the statements are not yours to turn. If you find one false, say at which input.
  Laid BY PROGRAM, IN A SANDBOX (cutbox-rows.mjs): the forced cells as the released guide's own fill.sh prints them over the translation 3dc8916b945fc050… (all of the seat's roots in one cut). By AI agents, Wed Nov 11 2026. No macro, syntax, notation, axiom, sorry.
-/
import Derived.Test.Qxb6000633aChecked
import GoSem.Claim
import GoSem.ClaimJoined
import GoSem.ClaimMapViews
import Derived.JoinedTies
import Derived.KernelRfl
namespace Go.Proofs.Qxb6000633a
/- THE CELL 'sum', in the pinned program and in every row, IS THE sha256 OF THE DUMP (.gsa) THAT Qxb6000633aProg.lean LOADS. Nothing in Lean hashes anything: it is a label: what it is worth is what the hold of that sum in a sandbox is worth. -/
noncomputable def Try.pinned : Pinned := { name := "qxb6000633a", sum := "3dc8916b945fc05096415545fc4a4328513206ea99b43f44ecea2f5829f5ade0", checked := Try.checked }
namespace Rows
def none {H : Type} : Left H := { results := [], args := [] }

/-- 'zzlaws_internal_alloc_b1.FnMovedMatchesFreshValue': WHATEVER THE INPUT: true; the input reads as it did. -/
def fnMovedMatchesFreshValueSpec : ChangeSpec := { name := "fnMovedMatchesFreshValue", fn := fun _ => fun
  | [d1, d2, d3, d4, d5] => { results := [.lit (.bool true)], args := [d1, d2, d3, d4, d5] }
  | _ => none }
def fnMovedMatchesFreshValueRow : OpenClaim := { program := "qxb6000633a", sum := "3dc8916b945fc05096415545fc4a4328513206ea99b43f44ecea2f5829f5ade0", func := "example.com/loadline/loadline/zzlaws_internal_alloc_b1.FnMovedMatchesFreshValue", spec := "fnMovedMatchesFreshValue", apart := false }
def FnMovedMatchesFreshValueSaid : Prop := fnMovedMatchesFreshValueRow.holds Try.pinned (OpenSpec.ofChange fnMovedMatchesFreshValueSpec)

/-- ITS FALSE NEIGHBOUR: 'it returns false'. Refute it at one input. -/
def fnMovedMatchesFreshValueWrong : ChangeSpec := { name := "fnMovedMatchesFreshValue", fn := fun _ => fun
  | [d1, d2, d3, d4, d5] => { results := [.lit (.bool false)], args := [d1, d2, d3, d4, d5] }
  | _ => none }
def FnMovedMatchesFreshValueWrongFalsely : Prop := fnMovedMatchesFreshValueRow.holds Try.pinned (OpenSpec.ofChange fnMovedMatchesFreshValueWrong)

/-- 'zzlaws_internal_alloc_b1.FnMovedTracksDisjointPairs': WHATEVER THE INPUT: true; the input reads as it did. -/
def fnMovedTracksDisjointPairsSpec : ChangeSpec := { name := "fnMovedTracksDisjointPairs", fn := fun _ => fun
  | [d1, d2, d3, d4, d5] => { results := [.lit (.bool true)], args := [d1, d2, d3, d4, d5] }
  | _ => none }
def fnMovedTracksDisjointPairsRow : OpenClaim := { program := "qxb6000633a", sum := "3dc8916b945fc05096415545fc4a4328513206ea99b43f44ecea2f5829f5ade0", func := "example.com/loadline/loadline/zzlaws_internal_alloc_b1.FnMovedTracksDisjointPairs", spec := "fnMovedTracksDisjointPairs", apart := false }
def FnMovedTracksDisjointPairsSaid : Prop := fnMovedTracksDisjointPairsRow.holds Try.pinned (OpenSpec.ofChange fnMovedTracksDisjointPairsSpec)

/-- ITS FALSE NEIGHBOUR: 'it returns false'. Refute it at one input. -/
def fnMovedTracksDisjointPairsWrong : ChangeSpec := { name := "fnMovedTracksDisjointPairs", fn := fun _ => fun
  | [d1, d2, d3, d4, d5] => { results := [.lit (.bool false)], args := [d1, d2, d3, d4, d5] }
  | _ => none }
def FnMovedTracksDisjointPairsWrongFalsely : Prop := fnMovedTracksDisjointPairsRow.holds Try.pinned (OpenSpec.ofChange fnMovedTracksDisjointPairsWrong)

/-- 'zzlaws_internal_alloc_b1.FnMovePairRaisesValueByOnePair': WHATEVER THE INPUT: true; the input reads as it did. -/
def fnMovePairRaisesValueByOnePairSpec : ChangeSpec := { name := "fnMovePairRaisesValueByOnePair", fn := fun _ => fun
  | [d1, d2, d3, d4, d5, d6, d7, d8, d9] => { results := [.lit (.bool true)], args := [d1, d2, d3, d4, d5, d6, d7, d8, d9] }
  | _ => none }
def fnMovePairRaisesValueByOnePairRow : OpenClaim := { program := "qxb6000633a", sum := "3dc8916b945fc05096415545fc4a4328513206ea99b43f44ecea2f5829f5ade0", func := "example.com/loadline/loadline/zzlaws_internal_alloc_b1.FnMovePairRaisesValueByOnePair", spec := "fnMovePairRaisesValueByOnePair", apart := false }
def FnMovePairRaisesValueByOnePairSaid : Prop := fnMovePairRaisesValueByOnePairRow.holds Try.pinned (OpenSpec.ofChange fnMovePairRaisesValueByOnePairSpec)

/-- ITS FALSE NEIGHBOUR: 'it returns false'. Refute it at one input. -/
def fnMovePairRaisesValueByOnePairWrong : ChangeSpec := { name := "fnMovePairRaisesValueByOnePair", fn := fun _ => fun
  | [d1, d2, d3, d4, d5, d6, d7, d8, d9] => { results := [.lit (.bool false)], args := [d1, d2, d3, d4, d5, d6, d7, d8, d9] }
  | _ => none }
def FnMovePairRaisesValueByOnePairWrongFalsely : Prop := fnMovePairRaisesValueByOnePairRow.holds Try.pinned (OpenSpec.ofChange fnMovePairRaisesValueByOnePairWrong)

/-- 'zzlaws_internal_alloc_b1.FnMovePairRefusesWhenNoGainBeatsALoss': WHATEVER THE INPUT: true; the input reads as it did. -/
def fnMovePairRefusesWhenNoGainBeatsALossSpec : ChangeSpec := { name := "fnMovePairRefusesWhenNoGainBeatsALoss", fn := fun _ => fun
  | [d1, d2, d3, d4, d5, d6, d7, d8, d9] => { results := [.lit (.bool true)], args := [d1, d2, d3, d4, d5, d6, d7, d8, d9] }
  | _ => none }
def fnMovePairRefusesWhenNoGainBeatsALossRow : OpenClaim := { program := "qxb6000633a", sum := "3dc8916b945fc05096415545fc4a4328513206ea99b43f44ecea2f5829f5ade0", func := "example.com/loadline/loadline/zzlaws_internal_alloc_b1.FnMovePairRefusesWhenNoGainBeatsALoss", spec := "fnMovePairRefusesWhenNoGainBeatsALoss", apart := false }
def FnMovePairRefusesWhenNoGainBeatsALossSaid : Prop := fnMovePairRefusesWhenNoGainBeatsALossRow.holds Try.pinned (OpenSpec.ofChange fnMovePairRefusesWhenNoGainBeatsALossSpec)

/-- ITS FALSE NEIGHBOUR: 'it returns false'. Refute it at one input. -/
def fnMovePairRefusesWhenNoGainBeatsALossWrong : ChangeSpec := { name := "fnMovePairRefusesWhenNoGainBeatsALoss", fn := fun _ => fun
  | [d1, d2, d3, d4, d5, d6, d7, d8, d9] => { results := [.lit (.bool false)], args := [d1, d2, d3, d4, d5, d6, d7, d8, d9] }
  | _ => none }
def FnMovePairRefusesWhenNoGainBeatsALossWrongFalsely : Prop := fnMovePairRefusesWhenNoGainBeatsALossRow.holds Try.pinned (OpenSpec.ofChange fnMovePairRefusesWhenNoGainBeatsALossWrong)

/-- 'zzlaws_internal_alloc_b1.FnMoveSetsRaisesValueByDisjointPairs': WHATEVER THE INPUT: true; the input reads as it did. -/
def fnMoveSetsRaisesValueByDisjointPairsSpec : ChangeSpec := { name := "fnMoveSetsRaisesValueByDisjointPairs", fn := fun _ => fun
  | [d1, d2, d3, d4, d5, d6, d7, d8, d9] => { results := [.lit (.bool true)], args := [d1, d2, d3, d4, d5, d6, d7, d8, d9] }
  | _ => none }
def fnMoveSetsRaisesValueByDisjointPairsRow : OpenClaim := { program := "qxb6000633a", sum := "3dc8916b945fc05096415545fc4a4328513206ea99b43f44ecea2f5829f5ade0", func := "example.com/loadline/loadline/zzlaws_internal_alloc_b1.FnMoveSetsRaisesValueByDisjointPairs", spec := "fnMoveSetsRaisesValueByDisjointPairs", apart := false }
def FnMoveSetsRaisesValueByDisjointPairsSaid : Prop := fnMoveSetsRaisesValueByDisjointPairsRow.holds Try.pinned (OpenSpec.ofChange fnMoveSetsRaisesValueByDisjointPairsSpec)

/-- ITS FALSE NEIGHBOUR: 'it returns false'. Refute it at one input. -/
def fnMoveSetsRaisesValueByDisjointPairsWrong : ChangeSpec := { name := "fnMoveSetsRaisesValueByDisjointPairs", fn := fun _ => fun
  | [d1, d2, d3, d4, d5, d6, d7, d8, d9] => { results := [.lit (.bool false)], args := [d1, d2, d3, d4, d5, d6, d7, d8, d9] }
  | _ => none }
def FnMoveSetsRaisesValueByDisjointPairsWrongFalsely : Prop := fnMoveSetsRaisesValueByDisjointPairsRow.holds Try.pinned (OpenSpec.ofChange fnMoveSetsRaisesValueByDisjointPairsWrong)

/-- 'zzlaws_internal_alloc_b1.FnMoveSetsRefusesWhenNoGainBeatsALoss': WHATEVER THE INPUT: true; the input reads as it did. -/
def fnMoveSetsRefusesWhenNoGainBeatsALossSpec : ChangeSpec := { name := "fnMoveSetsRefusesWhenNoGainBeatsALoss", fn := fun _ => fun
  | [d1, d2, d3, d4, d5, d6, d7, d8, d9] => { results := [.lit (.bool true)], args := [d1, d2, d3, d4, d5, d6, d7, d8, d9] }
  | _ => none }
def fnMoveSetsRefusesWhenNoGainBeatsALossRow : OpenClaim := { program := "qxb6000633a", sum := "3dc8916b945fc05096415545fc4a4328513206ea99b43f44ecea2f5829f5ade0", func := "example.com/loadline/loadline/zzlaws_internal_alloc_b1.FnMoveSetsRefusesWhenNoGainBeatsALoss", spec := "fnMoveSetsRefusesWhenNoGainBeatsALoss", apart := false }
def FnMoveSetsRefusesWhenNoGainBeatsALossSaid : Prop := fnMoveSetsRefusesWhenNoGainBeatsALossRow.holds Try.pinned (OpenSpec.ofChange fnMoveSetsRefusesWhenNoGainBeatsALossSpec)

/-- ITS FALSE NEIGHBOUR: 'it returns false'. Refute it at one input. -/
def fnMoveSetsRefusesWhenNoGainBeatsALossWrong : ChangeSpec := { name := "fnMoveSetsRefusesWhenNoGainBeatsALoss", fn := fun _ => fun
  | [d1, d2, d3, d4, d5, d6, d7, d8, d9] => { results := [.lit (.bool false)], args := [d1, d2, d3, d4, d5, d6, d7, d8, d9] }
  | _ => none }
def FnMoveSetsRefusesWhenNoGainBeatsALossWrongFalsely : Prop := fnMoveSetsRefusesWhenNoGainBeatsALossRow.holds Try.pinned (OpenSpec.ofChange fnMoveSetsRefusesWhenNoGainBeatsALossWrong)

end Rows
end Go.Proofs.Qxb6000633a
