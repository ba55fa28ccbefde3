import Derived.Test.YbulkyqsMoved
import Derived.WalkSmall
namespace Go.Proofs.Ybulkyqs
open Go.RowKit
set_option linter.unusedVariables false

/-- Within 2^40. -/
def In40 (v : Int) : Prop := -1099511627776 ≤ v ∧ v ≤ 1099511627776

theorem mv_range {lo hi size x0 x1 : Int} (b1 : In40 lo) (b2 : In40 hi) (b3 : In40 size) (b4 : In40 x0) (b5 : In40 x1) :
    -4398046511104 ≤ mvLo lo hi size x0 x1 ∧ mvLo lo hi size x0 x1 ≤ 4398046511104 ∧ -4398046511104 ≤ mvHi lo hi size x0 x1 ∧ mvHi lo hi size x0 x1 ≤ 4398046511104 := by
  unfold In40 at b1 b2 b3 b4 b5
  have a1 : -4398046511104 ≤ mvLo1 lo hi size x0 x1 ∧ mvLo1 lo hi size x0 x1 ≤ 4398046511104 := by unfold mvLo1; split <;> omega
  have a2 : -4398046511104 ≤ mvHi1 lo hi size x0 x1 ∧ mvHi1 lo hi size x0 x1 ≤ 4398046511104 := by unfold mvHi1; split <;> omega
  unfold mvLo mvHi
  split <;> omega

/-- What fills answers where the window does not hold the offsets. -/
def flN (lo hi tl th : Int) : Int := max (min th lo - tl) 0 + max (th - max tl hi) 0
def fl (lo hi size x0 x1 : Int) : Int := if holdB lo hi x0 x1 = true then 0 else flN lo hi (mvLo lo hi size x0 x1) (mvHi lo hi size x0 x1)

set_option maxHeartbeats 1000000 in
set_option maxRecDepth 100000 in
theorem fills_calls (B : Nat) (lo hi size x0 x1 : Int) (w : World) (W : Win w B lo hi size) (b1 : In40 lo) (b2 : In40 hi) (b3 : In40 size) (b4 : In40 x0) (b5 : In40 x1) :
    Calls Yba.prog 10 #[.pointer (some ⟨B, 0, none⟩), .int .i64 x0, .int .i64 x1] w fun e w' => e = .returned (.int .i64 (fl lo hi size x0 x1)) ∧ Below w.heap.size w w' := by
  cases hh : holdB lo hi x0 x1
  · have e : fl lo hi size x0 x1 = flN lo hi (mvLo lo hi size x0 x1) (mvHi lo hi size x0 x1) := by simp [fl, hh]
    rw [e]
    clear e
    obtain ⟨r1, r2, r3, r4⟩ := mv_range b1 b2 b3 b4 b5
    have hm := moved_calls B lo hi size x0 x1
    generalize mvLo lo hi size x0 x1 = tl at *
    generalize mvHi lo hi size x0 x1 = th at *
    have HM : Hid (∀ (w : World), Win w B lo hi size → (-1099511627776 ≤ lo ∧ lo ≤ 1099511627776) → (-1099511627776 ≤ hi ∧ hi ≤ 1099511627776) → (-1099511627776 ≤ size ∧ size ≤ 1099511627776) → (-1099511627776 ≤ x0 ∧ x0 ≤ 1099511627776) → (-1099511627776 ≤ x1 ∧ x1 ≤ 1099511627776) → Calls Yba.prog 13 #[.pointer (some ⟨B, 0, none⟩), .int .i64 x0, .int .i64 x1] w fun e w' => e = .returned (.agg #[.int .i64 tl, .int .i64 th, .int .i64 size]) ∧ Below w.heap.size w w') := hm
    clear hm
    have hlo1 := b1.1
    have hlo2 := b1.2
    have hhi1 := b2.1
    have hhi2 := b2.2
    go_enter Yba.func10, Yba.ntmps10
    go_wp2_with (first
      | (go_at_call 16; refine (holds_calls B lo hi size x0 x1 _ W).mono ?_; rintro e w1 ⟨rfl, rfl⟩)
      | (go_at_call 13; refine (HM.out _ W b1 b2 b3 b4 b5).mono ?_; rintro e w2 ⟨rfl, hb2⟩; have W2 := W.below hb2; have c0 := W2.lo; have c1 := W2.hi; have hB := W2.lt))
    go_quiet (fail)
    go_wp2
    go_ret
    exact ⟨rfl, below_drewN (hb2.alloc hb2.size _) _⟩
  · have e : fl lo hi size x0 x1 = 0 := by simp [fl, hh]
    rw [e]
    clear e
    go_enter Yba.func10, Yba.ntmps10
    go_wp2_with (go_at_call 16; refine (holds_calls B lo hi size x0 x1 _ W).mono ?_; rintro e w1 ⟨rfl, rfl⟩)
    go_ret
    exact ⟨rfl, Below.refl _ _⟩
end Go.Proofs.Ybulkyqs
