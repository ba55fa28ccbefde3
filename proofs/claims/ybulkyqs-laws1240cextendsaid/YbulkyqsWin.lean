import Derived.Test.YbulkyqsRows
import Derived.WalkKit
import Derived.WalkSpells
import Derived.Deep.OwnRows
import Derived.BigQuiet
import Derived.Deep.QuietTactic
namespace Go.Proofs.Ybulkyqs
open Go.RowKit
set_option linter.unusedVariables false

theorem win_below (w : World) (o : Obj) : Below w.heap.size w (w.alloc o) := (Below.refl _ _).alloc (Nat.le_refl _) o

/-- Is v between -b and b? -/
def inB (v b : Int) : Bool := decide (-b ≤ v) && decide (v ≤ b)
theorem inB_true {v b : Int} (h : inB v b = true) : -b ≤ v ∧ v ≤ b := by simpa [inB] using h
theorem inB_false {v b : Int} (h : inB v b = false) : ¬ (-b ≤ v ∧ v ≤ b) := by
  intro h2; rw [inB, decide_eq_true h2.1, decide_eq_true h2.2] at h; simp at h

set_option maxHeartbeats 1000000 in
theorem cin_calls (v b : Int) (w : World) (hb0 : 0 ≤ b) (hb1 : b ≤ 1099511627776) :
    Calls Yba.prog 9 #[.int .i64 v, .int .i64 b] w fun e w' => e = .returned (.bool (inB v b)) ∧ w = w' := by
  by_cases h1 : -b ≤ v
  · by_cases h2 : v ≤ b
    · have hx : inB v b = true := by simp [inB, h1, h2]
      rw [hx]
      clear hx
      go_enter Yba.func9, Yba.ntmps9
      go_wp2
      go_ret
      exact ⟨rfl, rfl⟩
    · have hx : inB v b = false := by simp [inB, h2]
      rw [hx]
      clear hx
      go_enter Yba.func9, Yba.ntmps9
      go_wp2
      go_ret
      exact ⟨rfl, rfl⟩
  · have hx : inB v b = false := by simp [inB, h1]
    rw [hx]
    clear hx
    go_enter Yba.func9, Yba.ntmps9
    go_wp2
    go_ret
    exact ⟨rfl, rfl⟩

/-- Does the window hold the offsets from x0 to x1? -/
def holdB (lo hi x0 x1 : Int) : Bool := decide (lo ≤ x0) && decide (x1 < hi)
theorem holdB_true {lo hi x0 x1 : Int} (h : holdB lo hi x0 x1 = true) : lo ≤ x0 ∧ x1 < hi := by simpa [holdB] using h
theorem holdB_false {lo hi x0 x1 : Int} (h : holdB lo hi x0 x1 = false) : ¬ (lo ≤ x0 ∧ x1 < hi) := by
  intro h2; rw [holdB, decide_eq_true h2.1, decide_eq_true h2.2] at h; simp at h

/-- The window's three cells lie in block B. -/
structure Win (w : World) (B : Nat) (lo hi size : Int) : Prop where
  lo : w.cell? ⟨B, 0, none⟩ = some (.int .i64 lo)
  hi : w.cell? ⟨B, 1, none⟩ = some (.int .i64 hi)
  size : w.cell? ⟨B, 2, none⟩ = some (.int .i64 size)

theorem Win.lt {w : World} {B : Nat} {lo hi size : Int} (h : Win w B lo hi size) : B < w.heap.size := World.block_lt_of_cell? w _ h.lo
theorem Win.below {w w' : World} {B : Nat} {lo hi size : Int} (h : Win w B lo hi size) (hb : Below w.heap.size w w') : Win w' B lo hi size :=
  have z := h.lt
  ⟨(hb.cell (p := ⟨B, 0, none⟩) z).trans h.lo, (hb.cell (p := ⟨B, 1, none⟩) z).trans h.hi, (hb.cell (p := ⟨B, 2, none⟩) z).trans h.size⟩

set_option maxHeartbeats 1000000 in
theorem holds_calls (B : Nat) (lo hi size x0 x1 : Int) (w : World) (W : Win w B lo hi size) :
    Calls Yba.prog 16 #[.pointer (some ⟨B, 0, none⟩), .int .i64 x0, .int .i64 x1] w fun e w' => e = .returned (.bool (holdB lo hi x0 x1)) ∧ w = w' := by
  have c0 := W.lo
  have c1 := W.hi
  by_cases h1 : lo ≤ x0
  · by_cases h2 : x1 < hi
    · have hx : holdB lo hi x0 x1 = true := by simp [holdB, h1, h2]
      rw [hx]
      clear hx
      go_enter Yba.func16, Yba.ntmps16
      go_wp2
      go_ret
      exact ⟨rfl, rfl⟩
    · have hx : holdB lo hi x0 x1 = false := by simp [holdB, h2]
      rw [hx]
      clear hx
      go_enter Yba.func16, Yba.ntmps16
      go_wp2
      go_ret
      exact ⟨rfl, rfl⟩
  · have hx : holdB lo hi x0 x1 = false := by simp [holdB, h1]
    rw [hx]
    clear hx
    go_enter Yba.func16, Yba.ntmps16
    go_wp2
    go_ret
    exact ⟨rfl, rfl⟩
end Go.Proofs.Ybulkyqs
