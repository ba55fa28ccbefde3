import Derived.Test.YbulkyvaOut
import Derived.Lib.SliceRun
import Derived.Lib.LazyBuf
namespace Go.Proofs.Ybulkyva
open Go.RowKit
set_option linter.unusedVariables false

theorem setCells_heap (g : Nat) : ∀ (vs : List Value) (o : Nat) (w : World) (b : Nat), b ≠ g → (w.setCells g o vs).heap[b]? = w.heap[b]?
  | [], _, _, _, _ => rfl
  | v :: vs, o, w, b, hb => (setCells_heap g vs (o + 1) _ b hb).trans (Below.heap_setCell _ _ _ _ hb)
theorem setCells_chg {B : Nat} {X : Nat → Prop} {w0 : World} (g : Nat) (hB : B ≤ g) (hX : X g ∨ w0.heap.size ≤ g) : ∀ (vs : List Value) (o : Nat) (w : World), Chg B X w0 w → Chg B X w0 (w.setCells g o vs)
  | [], _, _, h => h
  | v :: vs, o, w, h => setCells_chg g hB hX vs (o + 1) _ (h.setCell (p := ⟨g, o, none⟩) hB hX v)

/-- clear, of a row of marks. -/
theorem clear_run (w : World) (g n : Nat) (f : Nat → Value) (h : w.rowIs g 4 n f) :
    ∃ w', (Builtin.clear_ #[44] 0 #[.slice (some ⟨g, 0, none⟩) n n]).run Yba.prog w = .ok (.tuple #[]) w' ∧ w'.rowIs g 4 n (fun _ => .bool false) ∧ Chg g (fun b => b = g) w w' := by
  by_cases hn : 0 < n
  · refine ⟨_, Lib.run_clear_slice w 44 4 0 (.bool false) Yba.underlying44 Yba.zeroValue4 rfl rfl g 0 n n hn (fun j hj => by rw [Nat.zero_add, h.cell hj]; rfl) (fun j hj => by rw [Nat.zero_add]; exact h.frozen j), ?_, setCells_chg (X := fun b => b = g) g (Nat.le_refl _) (.inl rfl) _ _ _ (Chg.refl _ _ _)⟩
    refine (rowIs_setCells (List.replicate n (.bool false)) 0 w f h).congr (fun i hi => ?_)
    simp [hi]
  · obtain rfl : n = 0 := by omega
    refine ⟨w, ?_, h.congr (fun i hi => by omega), Chg.refl _ _ _⟩
    simp [Builtin.clear_, run_underlying Yba.underlying44]
end Go.Proofs.Ybulkyva
