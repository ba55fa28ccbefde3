import Derived.Test.YbulkytyShared
import Derived.Great.Ranges
namespace Go.Proofs.Ybulkyty
open Go.RowKit
set_option linter.unusedVariables false

/-- The model's cells: three a slot. -/
def mcell : Option (Bool × ByteArray) → Nat → Value
  | none, 2 => .string ByteArray.empty
  | none, _ => .bool false
  | some (n, s), 0 => .bool true
  | some (n, s), 1 => .bool n
  | some (n, s), _ => .string s
def mf (st : Nat → Option (Bool × ByteArray)) (i : Nat) : Value := mcell (st (i / 3)) (i % 3)

def rZero : Array Value := ((List.range 1028).map (rf (fun _ => none))).toArray
def mZero : Array Value := ((List.range 3072).map (mf (fun _ => none))).toArray

theorem built31 : Yba.prog.built 31 [] = some rZero := by kernel_rfl
theorem zero34 : ((Yba.prog.info? 34).bind (·.zero)).map (·.cells) = some mZero := by kernel_rfl

theorem wpList_allocTo {P : Program} {ops : Array Oper} {rest : List Oper} {o : Oper} {a : Act} {w : World} {Q : Exit → Act → World → Prop} (hg : o.guard = none) (t : TypeId) (ho : o.op = .alloc t)
    (dst : Option Tmp) (hdst : o.dst = dst) (N : Nat) (hN : w.heap.size = N) (cells : Array Value) (hz : ((P.info? t).bind (·.zero)).map (·.cells) = some cells)
    (h : wpList P ops Q rest (a.put dst (.pointer (some ⟨N, 0, none⟩))) (w.alloc (.cells cells t))) : wpList P ops Q (o :: rest) a w := by
  subst hdst hN
  cases hi : P.info? t with
  | none => simp [hi] at hz
  | some i =>
    cases hzz : i.zero with
    | none => simp [hi, hzz] at hz
    | some z =>
      simp [hi, hzz] at hz
      subst hz
      refine wpList_plain hg fun K hK => ?_
      unfold Oper.wp execOp
      simp [ho, Instr.alloc, zeroValue, typeInfo, hi, hzz, newVar, newRow, Result.andThen]
      exact hK _ _ h
end Go.Proofs.Ybulkyty
