/-
  No cell of these rows narrows 'for every input' (looked for: loops, veiled, ifaces, maps, wideKeys, modest, calm, conditions, laid).
  DERIVED. THE GIVEN ROWS OF THIS SEAT. 4 by the template 'for every input the law returns true; each argument reads behind the call as it read before'; 0 by the template 'total and deterministic' (their statements: YbulkyvaTotals.lean).
  GIVEN WITH THE SEED: the statements are not yours to turn. If you find one false, say at which input.
  Laid BY PROGRAM, IN A SANDBOX (cutbox-rows.mjs): the forced cells as the released guide's own fill.sh prints them over the translation 8e007da6ed7d81f6… (all of the seat's roots in one cut). By AI agents, Wed Nov 11 2026. No macro, syntax, notation, axiom, sorry.
-/
import Derived.Test.YbulkyvaChecked
import GoSem.Claim
import GoSem.ClaimJoined
import GoSem.ClaimMapViews
import Derived.JoinedTies
import Derived.KernelRfl
namespace Go.Proofs.Ybulkyva
/- THE CELL 'sum', in the pinned program and in every row, IS THE sha256 OF THE DUMP (.gsa) THAT YbulkyvaProg.lean LOADS. Nothing in Lean hashes anything: it is a label: what it is worth is what the hold of that sum in a sandbox is worth. -/
noncomputable def Yba.pinned : Pinned := { name := "ybulkyva", sum := "8e007da6ed7d81f63990aac73982875f9b95cfc4dd91e680bbf7db90142467db", checked := Yba.checked }
namespace Rows
def none {H : Type} : Left H := { results := [], args := [] }

/-- 'network.LawS1248AArcs': WHATEVER THE INPUT: true; the input reads as it did. -/
def lawS1248AArcsSpec : ChangeSpec := { name := "lawS1248AArcs", fn := fun _ => fun
  | [d1, d2, d3] => { results := [.lit (.bool true)], args := [d1, d2, d3] }
  | _ => none }
def lawS1248AArcsRow : OpenClaim := { program := "ybulkyva", sum := "8e007da6ed7d81f63990aac73982875f9b95cfc4dd91e680bbf7db90142467db", func := "example.com/parley/parley/network.LawS1248AArcs", spec := "lawS1248AArcs", plainKeys := false, apart := false }
def LawS1248AArcsSaid : Prop := lawS1248AArcsRow.holds Yba.pinned (OpenSpec.ofChange lawS1248AArcsSpec)

/-- ITS FALSE NEIGHBOUR: 'it returns false'. Refute it at one input. -/
def lawS1248AArcsWrong : ChangeSpec := { name := "lawS1248AArcs", fn := fun _ => fun
  | [d1, d2, d3] => { results := [.lit (.bool false)], args := [d1, d2, d3] }
  | _ => none }
def LawS1248AArcsWrongFalsely : Prop := lawS1248AArcsRow.holds Yba.pinned (OpenSpec.ofChange lawS1248AArcsWrong)

/-- 'consensus.LawS1248BIterations': WHATEVER THE INPUT: true; the input reads as it did. -/
def lawS1248BIterationsSpec : ChangeSpec := { name := "lawS1248BIterations", fn := fun _ => fun
  | [d1, d2, d3] => { results := [.lit (.bool true)], args := [d1, d2, d3] }
  | _ => none }
def lawS1248BIterationsRow : OpenClaim := { program := "ybulkyva", sum := "8e007da6ed7d81f63990aac73982875f9b95cfc4dd91e680bbf7db90142467db", func := "example.com/parley/parley/consensus.LawS1248BIterations", spec := "lawS1248BIterations", unfollowed := true, recurses := true, plainKeys := false, apart := false }
def LawS1248BIterationsSaid : Prop := lawS1248BIterationsRow.holds Yba.pinned (OpenSpec.ofChange lawS1248BIterationsSpec)

/-- ITS FALSE NEIGHBOUR: 'it returns false'. Refute it at one input. -/
def lawS1248BIterationsWrong : ChangeSpec := { name := "lawS1248BIterations", fn := fun _ => fun
  | [d1, d2, d3] => { results := [.lit (.bool false)], args := [d1, d2, d3] }
  | _ => none }
def LawS1248BIterationsWrongFalsely : Prop := lawS1248BIterationsRow.holds Yba.pinned (OpenSpec.ofChange lawS1248BIterationsWrong)

/-- 'consensus.LawS1248CExact': WHATEVER THE INPUT: true; the input reads as it did. -/
def lawS1248CExactSpec : ChangeSpec := { name := "lawS1248CExact", fn := fun _ => fun
  | [d1, d2] => { results := [.lit (.bool true)], args := [d1, d2] }
  | _ => none }
def lawS1248CExactRow : OpenClaim := { program := "ybulkyva", sum := "8e007da6ed7d81f63990aac73982875f9b95cfc4dd91e680bbf7db90142467db", func := "example.com/parley/parley/consensus.LawS1248CExact", spec := "lawS1248CExact", plainKeys := false, apart := false }
def LawS1248CExactSaid : Prop := lawS1248CExactRow.holds Yba.pinned (OpenSpec.ofChange lawS1248CExactSpec)

/-- ITS FALSE NEIGHBOUR: 'it returns false'. Refute it at one input. -/
def lawS1248CExactWrong : ChangeSpec := { name := "lawS1248CExact", fn := fun _ => fun
  | [d1, d2] => { results := [.lit (.bool false)], args := [d1, d2] }
  | _ => none }
def LawS1248CExactWrongFalsely : Prop := lawS1248CExactRow.holds Yba.pinned (OpenSpec.ofChange lawS1248CExactWrong)

/-- 'consensus.LawS1248CNoFaulty': WHATEVER THE INPUT: true; the input reads as it did. -/
def lawS1248CNoFaultySpec : ChangeSpec := { name := "lawS1248CNoFaulty", fn := fun _ => fun
  | [d] => { results := [.lit (.bool true)], args := [d] }
  | _ => none }
def lawS1248CNoFaultyRow : OpenClaim := { program := "ybulkyva", sum := "8e007da6ed7d81f63990aac73982875f9b95cfc4dd91e680bbf7db90142467db", func := "example.com/parley/parley/consensus.LawS1248CNoFaulty", spec := "lawS1248CNoFaulty", plainKeys := false, apart := false }
def LawS1248CNoFaultySaid : Prop := lawS1248CNoFaultyRow.holds Yba.pinned (OpenSpec.ofChange lawS1248CNoFaultySpec)

/-- ITS FALSE NEIGHBOUR: 'it returns false'. Refute it at one input. -/
def lawS1248CNoFaultyWrong : ChangeSpec := { name := "lawS1248CNoFaulty", fn := fun _ => fun
  | [d] => { results := [.lit (.bool false)], args := [d] }
  | _ => none }
def LawS1248CNoFaultyWrongFalsely : Prop := lawS1248CNoFaultyRow.holds Yba.pinned (OpenSpec.ofChange lawS1248CNoFaultyWrong)

end Rows
end Go.Proofs.Ybulkyva
