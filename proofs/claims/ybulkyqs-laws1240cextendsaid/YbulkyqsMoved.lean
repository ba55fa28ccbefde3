import Derived.Test.YbulkyqsWin
import Derived.Lib.MinMax
namespace Go.Proofs.Ybulkyqs
open Go.RowKit
set_option linter.unusedVariables false

def mvLo1 (lo hi size x0 x1 : Int) : Int := if x0 < lo then x0 else max lo (x1 + 1 - size)
def mvHi1 (lo hi size x0 x1 : Int) : Int := if x0 < lo then max (x1 + 1) (min hi (x0 + size)) else x1 + 1
def mvLo (lo hi size x0 x1 : Int) : Int := if min (mvHi1 lo hi size x0 x1) hi ≤ max (mvLo1 lo hi size x0 x1) lo then x0 else mvLo1 lo hi size x0 x1
def mvHi (lo hi size x0 x1 : Int) : Int := if min (mvHi1 lo hi size x0 x1) hi ≤ max (mvLo1 lo hi size x0 x1) lo then x1 + 1 else mvHi1 lo hi size x0 x1

set_option maxHeartbeats 1000000 in
set_option maxRecDepth 100000 in
theorem moved_calls (B : Nat) (lo hi size x0 x1 : Int) (w : World) (W : Win w B lo hi size)
    (b1 : -1099511627776 ≤ lo ∧ lo ≤ 1099511627776) (b2 : -1099511627776 ≤ hi ∧ hi ≤ 1099511627776) (b3 : -1099511627776 ≤ size ∧ size ≤ 1099511627776) (b4 : -1099511627776 ≤ x0 ∧ x0 ≤ 1099511627776) (b5 : -1099511627776 ≤ x1 ∧ x1 ≤ 1099511627776) :
    Calls Yba.prog 13 #[.pointer (some ⟨B, 0, none⟩), .int .i64 x0, .int .i64 x1] w fun e w' =>
      e = .returned (.agg #[.int .i64 (mvLo lo hi size x0 x1), .int .i64 (mvHi lo hi size x0 x1), .int .i64 size]) ∧ Below w.heap.size w w' := by
  have c0 := W.lo
  have c1 := W.hi
  have c2 := W.size
  have hB := W.lt
  have nB : ¬ B = w.heap.size := by omega
  have nB' : ¬ B = w.heap.size + 1 := by omega
  obtain ⟨b1, b1'⟩ := b1
  obtain ⟨b2, b2'⟩ := b2
  obtain ⟨b3, b3'⟩ := b3
  obtain ⟨b4, b4'⟩ := b4
  obtain ⟨b5, b5'⟩ := b5
  by_cases hA : x0 < lo
  · have e1 : mvLo1 lo hi size x0 x1 = x0 := by simp [mvLo1, hA]
    have e2 : mvHi1 lo hi size x0 x1 = max (x1 + 1) (min hi (x0 + size)) := by simp [mvHi1, hA]
    by_cases hR : min (max (x1 + 1) (min hi (x0 + size))) hi ≤ max x0 lo
    · have e3 : mvLo lo hi size x0 x1 = x0 := by simp only [mvLo, e1, e2, if_pos hR]
      have e4 : mvHi lo hi size x0 x1 = x1 + 1 := by simp only [mvHi, e1, e2, if_pos hR]
      rw [e3, e4]
      clear e1 e2 e3 e4
      go_enter Yba.func13, Yba.ntmps13
      go_wp2
      go_region
      go_wp2
      go_region
      go_wp2
      refine bodyPost_ret (v := .agg #[.int .i64 (x0), .int .i64 (x1 + 1), .int .i64 size]) (by simp [results, Yba.results13, go_sem]) rfl ⟨rfl, ?_⟩
      exact ((win_below _ _).alloc (by simp) _).drew.drew
    · have e3 : mvLo lo hi size x0 x1 = x0 := by simp only [mvLo, e1, e2, if_neg hR]
      have e4 : mvHi lo hi size x0 x1 = max (x1 + 1) (min hi (x0 + size)) := by simp only [mvHi, e1, e2, if_neg hR]
      rw [e3, e4]
      clear e1 e2 e3 e4
      go_enter Yba.func13, Yba.ntmps13
      go_wp2
      go_region
      go_wp2
      go_region
      go_wp2
      refine bodyPost_ret (v := .agg #[.int .i64 (x0), .int .i64 (max (x1 + 1) (min hi (x0 + size))), .int .i64 size]) (by simp [results, Yba.results13, go_sem]) rfl ⟨rfl, ?_⟩
      exact ((win_below _ _).alloc (by simp) _).drew.drew
  · have e1 : mvLo1 lo hi size x0 x1 = max lo (x1 + 1 - size) := by simp [mvLo1, hA]
    have e2 : mvHi1 lo hi size x0 x1 = x1 + 1 := by simp [mvHi1, hA]
    by_cases hR : min (x1 + 1) hi ≤ max (max lo (x1 + 1 - size)) lo
    · have e3 : mvLo lo hi size x0 x1 = x0 := by simp only [mvLo, e1, e2, if_pos hR]
      have e4 : mvHi lo hi size x0 x1 = x1 + 1 := by simp only [mvHi, e1, e2, if_pos hR]
      rw [e3, e4]
      clear e1 e2 e3 e4
      go_enter Yba.func13, Yba.ntmps13
      go_wp2
      go_region
      go_wp2
      go_region
      go_wp2
      refine bodyPost_ret (v := .agg #[.int .i64 (x0), .int .i64 (x1 + 1), .int .i64 size]) (by simp [results, Yba.results13, go_sem]) rfl ⟨rfl, ?_⟩
      exact ((win_below _ _).alloc (by simp) _).drew.drew
    · have e3 : mvLo lo hi size x0 x1 = max lo (x1 + 1 - size) := by simp only [mvLo, e1, e2, if_neg hR]
      have e4 : mvHi lo hi size x0 x1 = x1 + 1 := by simp only [mvHi, e1, e2, if_neg hR]
      rw [e3, e4]
      clear e1 e2 e3 e4
      go_enter Yba.func13, Yba.ntmps13
      go_wp2
      go_region
      go_wp2
      go_region
      go_wp2
      refine bodyPost_ret (v := .agg #[.int .i64 (max lo (x1 + 1 - size)), .int .i64 (x1 + 1), .int .i64 size]) (by simp [results, Yba.results13, go_sem]) rfl ⟨rfl, ?_⟩
      exact ((win_below _ _).alloc (by simp) _).drew.drew
end Go.Proofs.Ybulkyqs
