/-
  No cell of these rows narrows 'for every input' (looked for: loops, veiled, ifaces, maps, wideKeys, modest, calm, conditions, laid).
  DERIVED. THE GIVEN ROWS OF THIS SEAT. 1 by the template 'for every input the law returns true; each argument reads behind the call as it read before'; 0 by the template 'total and deterministic' (their statements: YbulkytyTotals.lean).
  GIVEN WITH THE SEED: the statements are not yours to turn. If you find one false, say at which input.
  Laid BY PROGRAM, IN A SANDBOX (cutbox-rows.mjs): the forced cells as the released guide's own fill.sh prints them over the translation 0c4e305a7b14178e… (all of the seat's roots in one cut). By AI agents, Wed Nov 11 2026. No macro, syntax, notation, axiom, sorry.
-/
import Derived.Test.YbulkytyChecked
import GoSem.Claim
import GoSem.ClaimJoined
import GoSem.ClaimMapViews
import Derived.JoinedTies
import Derived.KernelRfl
namespace Go.Proofs.Ybulkyty
/- THE CELL 'sum', in the pinned program and in every row, IS THE sha256 OF THE DUMP (.gsa) THAT YbulkytyProg.lean LOADS. Nothing in Lean hashes anything: it is a label: what it is worth is what the hold of that sum in a sandbox is worth. -/
noncomputable def Yba.pinned : Pinned := { name := "ybulkyty", sum := "0c4e305a7b14178e721a7e62789c1ecd20717789543ffd1ca54c70e923b0348e", checked := Yba.checked }
namespace Rows
def none {H : Type} : Left H := { results := [], args := [] }

/-- 'unbrace.LawS1246CScript': WHATEVER THE INPUT: true; the input reads as it did. -/
def lawS1246CScriptSpec : ChangeSpec := { name := "lawS1246CScript", fn := fun _ => fun
  | [d] => { results := [.lit (.bool true)], args := [d] }
  | _ => none }
def lawS1246CScriptRow : OpenClaim := { program := "ybulkyty", sum := "0c4e305a7b14178e721a7e62789c1ecd20717789543ffd1ca54c70e923b0348e", func := "example.com/unbrace/unbrace.LawS1246CScript", spec := "lawS1246CScript", apart := false }
def LawS1246CScriptSaid : Prop := lawS1246CScriptRow.holds Yba.pinned (OpenSpec.ofChange lawS1246CScriptSpec)

/-- ITS FALSE NEIGHBOUR: 'it returns false'. Refute it at one input. -/
def lawS1246CScriptWrong : ChangeSpec := { name := "lawS1246CScript", fn := fun _ => fun
  | [d] => { results := [.lit (.bool false)], args := [d] }
  | _ => none }
def LawS1246CScriptWrongFalsely : Prop := lawS1246CScriptRow.holds Yba.pinned (OpenSpec.ofChange lawS1246CScriptWrong)

end Rows
end Go.Proofs.Ybulkyty
