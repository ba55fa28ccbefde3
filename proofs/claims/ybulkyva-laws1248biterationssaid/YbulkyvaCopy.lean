import Derived.Test.YbulkyvaLeaf6
import Derived.Laws.CopyOwn
namespace Go.Proofs.Ybulkyva
open Go.RowKit
set_option linter.unusedVariables false

theorem Yba.size3 : (Yba.prog.info? 3).map (·.size) = some 1 := by kernel_rfl

/-- copy from one row of numbers into another, all of it. -/
theorem wpList_copy_rows {w : World} {ops : Array Oper} {rest : List Oper} {o : Oper} {a : Act} {Q : Exit → Act → World → Prop} (hgd : o.guard = none) (d s : Operand)
    (ho : o.op = .call { callee := .builtin .copy, args := #[d, s], argTypes := #[30, 30] }) (gc gx n cc cx : Nat) (U T : Nat → Int)
    (hd : a.eval d = .slice (some ⟨gc, 0, none⟩) n cc) (hs : a.eval s = .slice (some ⟨gx, 0, none⟩) n cx) (hc : IRow w gc n U) (hx : IRow w gx n T)
    (h : ∀ w', IRow w' gc n T → (∀ B, B ≤ gc → Chg B (fun b => b = gc) w w') → wpList Yba.prog ops Q rest (a.put o.dst (goInt n)) w') :
    wpList Yba.prog ops Q (o :: rest) a w := by
  obtain ⟨c, F, hnc, ⟨arr, harr, hsz, hF⟩, hFi⟩ := hc
  have hl : (icells n T).length = n := by simp [icells]
  refine wpList_copy_own hgd d s 30 30 ho 3 Yba.underlying30 Yba.size3 gc 0 n cc ⟨gx, 0, none⟩ n cx hd hs arr 3 harr (icells n T) (by rw [hl]; simp) ?_ (by rw [hl, hsz]; omega) icells_one ?_
  · intro j v hv
    obtain ⟨hj, rfl⟩ := icells_get hv
    rw [Addr.add_lit, Nat.zero_add]
    exact hx.cell hj
  · rw [hl]
    have hh := setRow_heap w gc arr (arr.toList.take 0 ++ (icells n T ++ arr.toList.drop (0 + n))).toArray 3 (0, 0) harr
    refine h _ ⟨c, fun i => if i < n then .int .i64 (T i) else F i, hnc, ⟨_, hh, ?_, fun i hi => ?_⟩, fun i hi => by simp [hi]⟩ (fun B hB => ⟨below_setRow (Below.refl _ _) hB _, fun b _ hb => setRow_other w gc b _ hb⟩)
    · simp [hl, hsz]; omega
    · by_cases e : i < n
      · simp [e, List.getElem?_append, icells]
      · have : i - n + n = i := by omega
        have hi' : i < arr.size := by omega
        have := hF i hi
        simp [e, List.getElem?_append, hl, Nat.add_comm, show n + (i - n) = i by omega, this]
end Go.Proofs.Ybulkyva
