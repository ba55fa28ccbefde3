import Derived.Test.YbulkyvaRange
import Derived.Test.YbulkyvaLeaf6
import Derived.Deep.Cut
namespace Go.Proofs.Ybulkyva
open Go.RowKit Go.Shelf
set_option linter.unusedVariables false
attribute [local go_sem] Oper.semAt_some

theorem neq41 (w : World) : (binOp .neq 41 .nilFunc .nilFunc).run Yba.prog w = .ok (.bool false) w := by kernel_rfl

set_option maxHeartbeats 2000000 in
set_option maxRecDepth 100000 in
theorem pruned0 (B n f c m k Bk Bn Bs : Nat) (L : Nat → Int) (X : Nat → Prop) (w : World) (hn : n ≤ 64) (hk0 : k ≤ 0) (hB : B ≤ w.heap.size)
    (hk : w.heap[Bk]? = some (.cells #[.int .i64 k] 3)) (hN : w.heap[Bn]? = some (.cells #[.int .i64 n] 3)) (hS : w.heap[Bs]? = some (.cells #[.nilFunc] 41)) (xk : X Bk) (xn : X Bn) (xs : X Bs)
    (h0 : c = 0) : Iterates B n f X c m L (c + 1) k 42 #[.pointer (some ⟨Bk, 0, none⟩), .pointer (some ⟨Bn, 0, none⟩), .pointer (some ⟨Bs, 0, none⟩)] w := by
  intro J' l q W1 hA hY hj old hz hXb
  have kb := (old Bk (blk_lt hk)).trans hk
  have nb := (old Bn (blk_lt hN)).trans hN
  have sb := (old Bs (blk_lt hS)).trans hS
  have k1 := cells_at (i := 0) (v := .int .i64 k) kb rfl
  have n1 := cells_at (i := 0) (v := .int .i64 n) nb rfl
  have k2 := fun o => cells_at (i := 0) (v := .int .i64 k) (alloc_keep (o' := o) kb) rfl
  have s2 := fun o => cells_at (i := 0) (v := .nilFunc) (alloc_keep (o' := o) sb) rfl
  have n2 := fun o => cells_at (i := 0) (v := .int .i64 n) (alloc_keep (o' := o) nb) rfl
  have hmk := fun w => run_make_row' (P := Yba.prog) 30 3 (.int .i64 0) 8 Yba.underlying30 Yba.info3 rfl .i64 .i64 k (by omega) (by omega) w
  have hkn : k ≤ n := by omega
  have hnf := neq41
  refine callsIn_wide.2 ?_
  go_enter Yba.func42, Yba.ntmps42
  go_wp2
  refine wp_loop_rounds 1 ?_
  rw [rounds_succ]
  go_wp2
  refine wp_loop_rounds 1 ?_
  rw [rounds_succ]
  go_wp2
  refine wp_loop_rounds 1 ?_
  rw [rounds_succ]
  go_upto_region 15 with fail
  have g1 : IRow (W1.alloc (.cells (madeCells #[.int .i64 0] k) 3)) W1.heap.size k (fun _ => 0) := IRow.of_rowIs (World.rowIs_made W1 (.int .i64 0) k 3) (Nat.le_refl _)
  have hj1 : J' (fun b => X b ∨ b = W1.heap.size) c m L (W1.alloc (.cells (madeCells #[.int .i64 0] k) 3)) := hA.turn (hA.weak hj (fun b hb => hb.elim .inl (fun e => .inr (by omega)))) ((Chg.refl B _ W1).alloc (by omega) _)
  have hFo : Follows n f c m L k (fun _ => 0) := ⟨fun _ => by omega, by omega, fun i hi => by omega, fun i hi => by omega, fun i hi => by omega, fun h => absurd h0 h⟩
  obtain ⟨fn, tm, asg, bod, hy, hR⟩ := hY _ c m L W1.heap.size k (fun _ => 0) _ hj1 (.inr rfl) g1 hFo (fun b hb => hb.elim (fun x => by have := hXb b x; simp; omega) (fun e => by simp; omega)) (q - 1)
  refine (wpIn_wide (n := q)).1 ?_
  gi_wp2
  refine ⟨fun h => by simp [Fence.wide] at h, hR.mono ?_⟩
  rintro e W3 ⟨rfl, hj3, hs3, hz3⟩
  have kb3 := (hs3 Bk (blk_lt (alloc_keep kb)) (.inl xk)).trans (alloc_keep kb)
  have nb3 := (hs3 Bn (blk_lt (alloc_keep nb)) (.inl xn)).trans (alloc_keep nb)
  have k3 := cells_at (i := 0) (v := .int .i64 k) kb3 rfl
  have n3 := cells_at (i := 0) (v := .int .i64 n) nb3 rfl
  gi_wp2
  obtain rfl : k = 0 := by omega
  go_wp2
  refine wp_loop_rounds 1 ?_
  rw [rounds_succ]
  go_wp2
  have d1 : decide (((0 : Nat) : Int) - 1 ≥ 0) = false := by decide
  have d2 : decide ((0 : Int) ≤ ((0 : Nat) : Int) - 1) = false := by decide
  go_quiet (fail)
  go_wp2
  refine bodyPost_ret (results_none rfl _ _ _) rfl ?_
  exact ⟨⟨_, rfl⟩, ⟨_, hA.weak (hA.turn hj3 ((Chg.refl B _ W3).drewN _)) (fun b hb => .inl (.inl hb))⟩, fun b hb hX => (hs3 b (by simp; omega) (.inl hX)).trans (Below.heap_alloc _ _ _ hb), Nat.le_trans (by simp) hz3⟩
end Go.Proofs.Ybulkyva
