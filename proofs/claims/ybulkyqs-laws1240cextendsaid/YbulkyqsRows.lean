/-
  No cell of these rows narrows 'for every input' (looked for: loops, veiled, ifaces, maps, wideKeys, modest, calm, conditions, laid).
  DERIVED. THE GIVEN ROWS OF THIS SEAT. 4 by the template 'for every input the law returns true; each argument reads behind the call as it read before'; 0 by the template 'total and deterministic' (their statements: YbulkyqsTotals.lean).
  GIVEN WITH THE SEED: the statements are not yours to turn. If you find one false, say at which input.
  Laid BY PROGRAM, IN A SANDBOX (cutbox-rows.mjs): the forced cells as the released guide's own fill.sh prints them over the translation 43d94118bfe5fbfb… (all of the seat's roots in one cut). By AI agents, Wed Nov 11 2026. No macro, syntax, notation, axiom, sorry.
-/
import Derived.Test.YbulkyqsChecked
import GoSem.Claim
import GoSem.ClaimJoined
import GoSem.ClaimMapViews
import Derived.JoinedTies
import Derived.KernelRfl
namespace Go.Proofs.Ybulkyqs
/- THE CELL 'sum', in the pinned program and in every row, IS THE sha256 OF THE DUMP (.gsa) THAT YbulkyqsProg.lean LOADS. Nothing in Lean hashes anything: it is a label: what it is worth is what the hold of that sum in a sandbox is worth. -/
noncomputable def Yba.pinned : Pinned := { name := "ybulkyqs", sum := "43d94118bfe5fbfbc49ba29358d9ec765f5e682cbc4079fe42cef8942ef32f81", checked := Yba.checked }
namespace Rows
def none {H : Type} : Left H := { results := [], args := [] }

/-- 'bodymatch.LawS1240BBytes': WHATEVER THE INPUT: true; the input reads as it did. -/
def lawS1240BBytesSpec : ChangeSpec := { name := "lawS1240BBytes", fn := fun _ => fun
  | [d1, d2] => { results := [.lit (.bool true)], args := [d1, d2] }
  | _ => none }
def lawS1240BBytesRow : OpenClaim := { program := "ybulkyqs", sum := "43d94118bfe5fbfbc49ba29358d9ec765f5e682cbc4079fe42cef8942ef32f81", func := "example.com/sigwright/sigwright/internal/bodymatch.LawS1240BBytes", spec := "lawS1240BBytes", apart := false }
def LawS1240BBytesSaid : Prop := lawS1240BBytesRow.holds Yba.pinned (OpenSpec.ofChange lawS1240BBytesSpec)

/-- ITS FALSE NEIGHBOUR: 'it returns false'. Refute it at one input. -/
def lawS1240BBytesWrong : ChangeSpec := { name := "lawS1240BBytes", fn := fun _ => fun
  | [d1, d2] => { results := [.lit (.bool false)], args := [d1, d2] }
  | _ => none }
def LawS1240BBytesWrongFalsely : Prop := lawS1240BBytesRow.holds Yba.pinned (OpenSpec.ofChange lawS1240BBytesWrong)

/-- 'bodymatch.LawS1240BProbes': WHATEVER THE INPUT: true; the input reads as it did. -/
def lawS1240BProbesSpec : ChangeSpec := { name := "lawS1240BProbes", fn := fun _ => fun
  | [d1, d2] => { results := [.lit (.bool true)], args := [d1, d2] }
  | _ => none }
def lawS1240BProbesRow : OpenClaim := { program := "ybulkyqs", sum := "43d94118bfe5fbfbc49ba29358d9ec765f5e682cbc4079fe42cef8942ef32f81", func := "example.com/sigwright/sigwright/internal/bodymatch.LawS1240BProbes", spec := "lawS1240BProbes", apart := false }
def LawS1240BProbesSaid : Prop := lawS1240BProbesRow.holds Yba.pinned (OpenSpec.ofChange lawS1240BProbesSpec)

/-- ITS FALSE NEIGHBOUR: 'it returns false'. Refute it at one input. -/
def lawS1240BProbesWrong : ChangeSpec := { name := "lawS1240BProbes", fn := fun _ => fun
  | [d1, d2] => { results := [.lit (.bool false)], args := [d1, d2] }
  | _ => none }
def LawS1240BProbesWrongFalsely : Prop := lawS1240BProbesRow.holds Yba.pinned (OpenSpec.ofChange lawS1240BProbesWrong)

/-- 'bodymatch.LawS1240CExtend': WHATEVER THE INPUT: true; the input reads as it did. -/
def lawS1240CExtendSpec : ChangeSpec := { name := "lawS1240CExtend", fn := fun _ => fun
  | [d1, d2, d3, d4, d5] => { results := [.lit (.bool true)], args := [d1, d2, d3, d4, d5] }
  | _ => none }
def lawS1240CExtendRow : OpenClaim := { program := "ybulkyqs", sum := "43d94118bfe5fbfbc49ba29358d9ec765f5e682cbc4079fe42cef8942ef32f81", func := "example.com/sigwright/sigwright/internal/bodymatch.LawS1240CExtend", spec := "lawS1240CExtend", unfollowed := true, recurses := true, apart := false }
def LawS1240CExtendSaid : Prop := lawS1240CExtendRow.holds Yba.pinned (OpenSpec.ofChange lawS1240CExtendSpec)

/-- ITS FALSE NEIGHBOUR: 'it returns false'. Refute it at one input. -/
def lawS1240CExtendWrong : ChangeSpec := { name := "lawS1240CExtend", fn := fun _ => fun
  | [d1, d2, d3, d4, d5] => { results := [.lit (.bool false)], args := [d1, d2, d3, d4, d5] }
  | _ => none }
def LawS1240CExtendWrongFalsely : Prop := lawS1240CExtendRow.holds Yba.pinned (OpenSpec.ofChange lawS1240CExtendWrong)

/-- 'bodymatch.LawS1240CCount': WHATEVER THE INPUT: true; the input reads as it did. -/
def lawS1240CCountSpec : ChangeSpec := { name := "lawS1240CCount", fn := fun _ => fun
  | [d1, d2, d3, d4, d5] => { results := [.lit (.bool true)], args := [d1, d2, d3, d4, d5] }
  | _ => none }
def lawS1240CCountRow : OpenClaim := { program := "ybulkyqs", sum := "43d94118bfe5fbfbc49ba29358d9ec765f5e682cbc4079fe42cef8942ef32f81", func := "example.com/sigwright/sigwright/internal/bodymatch.LawS1240CCount", spec := "lawS1240CCount", apart := false }
def LawS1240CCountSaid : Prop := lawS1240CCountRow.holds Yba.pinned (OpenSpec.ofChange lawS1240CCountSpec)

/-- ITS FALSE NEIGHBOUR: 'it returns false'. Refute it at one input. -/
def lawS1240CCountWrong : ChangeSpec := { name := "lawS1240CCount", fn := fun _ => fun
  | [d1, d2, d3, d4, d5] => { results := [.lit (.bool false)], args := [d1, d2, d3, d4, d5] }
  | _ => none }
def LawS1240CCountWrongFalsely : Prop := lawS1240CCountRow.holds Yba.pinned (OpenSpec.ofChange lawS1240CCountWrong)

end Rows
end Go.Proofs.Ybulkyqs
