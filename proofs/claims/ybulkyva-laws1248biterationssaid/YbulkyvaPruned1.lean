import Derived.Test.YbulkyvaPruned0
import Derived.Deep.LoopGhost
namespace Go.Proofs.Ybulkyva
open Go.RowKit Go.Shelf
set_option linter.unusedVariables false
attribute [local go_sem] Oper.semAt_some

/-- The iterator's own boxes, and what lay ahead of it. -/
structure PB (Bk Bn Bs k n : Nat) (X : Nat → Prop) (W1 wr : World) : Prop where
  lk : Bk < W1.heap.size
  ln : Bn < W1.heap.size
  ls : Bs < W1.heap.size
  bk : wr.heap[Bk]? = some (.cells #[.int .i64 k] 3)
  bn : wr.heap[Bn]? = some (.cells #[.int .i64 n] 3)
  bs : wr.heap[Bs]? = some (.cells #[.nilFunc] 41)
  same : Same X W1 wr
  size : W1.heap.size ≤ wr.heap.size

section
variable {Bk Bn Bs k n g : Nat} {X : Nat → Prop} {W1 wr W3 : World}
theorem PB.yield (h : PB Bk Bn Bs k n X W1 wr) (xk : X Bk) (xn : X Bn) (xs : X Bs) (hs : Same (fun b => X b ∨ b = g) wr W3) (hz : wr.heap.size ≤ W3.heap.size) : PB Bk Bn Bs k n X W1 W3 :=
  ⟨h.lk, h.ln, h.ls, (hs Bk (blk_lt h.bk) (.inl xk)).trans h.bk, (hs Bn (blk_lt h.bn) (.inl xn)).trans h.bn, (hs Bs (blk_lt h.bs) (.inl xs)).trans h.bs,
    fun b hb hX => (hs b (Nat.lt_of_lt_of_le hb h.size) (.inl hX)).trans (h.same b hb hX), Nat.le_trans h.size hz⟩
theorem PB.set (h : PB Bk Bn Bs k n X W1 wr) (i : Nat) (v : Value) : PB Bk Bn Bs k n X W1 (wr.setCell ⟨W1.heap.size, i, none⟩ v) :=
  have lk := h.lk
  have ln := h.ln
  have ls := h.ls
  ⟨h.lk, h.ln, h.ls, (Below.heap_setCell _ _ _ _ (by (try dsimp only); omega)).trans h.bk, (Below.heap_setCell _ _ _ _ (by (try dsimp only); omega)).trans h.bn, (Below.heap_setCell _ _ _ _ (by (try dsimp only); omega)).trans h.bs,
    fun b hb hX => (Below.heap_setCell _ _ _ _ (by (try dsimp only); omega)).trans (h.same b hb hX), by rw [World.size_setCell]; exact h.size⟩
theorem PB.drewN (h : PB Bk Bn Bs k n X W1 wr) (q : Nat) : PB Bk Bn Bs k n X W1 (wr.drewN q) := ⟨h.lk, h.ln, h.ls, h.bk, h.bn, h.bs, h.same, h.size⟩
theorem PB.alloc (h : PB Bk Bn Bs k n X W1 wr) (o : Obj) : PB Bk Bn Bs k n X W1 (wr.alloc o) :=
  ⟨h.lk, h.ln, h.ls, alloc_keep h.bk, alloc_keep h.bn, alloc_keep h.bs, fun b hb hX => (Below.heap_alloc _ _ _ (Nat.lt_of_lt_of_le hb h.size)).trans (h.same b hb hX), Nat.le_trans h.size (by simp)⟩
end

set_option maxHeartbeats 4000000 in
set_option maxRecDepth 100000 in
theorem pruned1 (B n f c m k Bk Bn Bs : Nat) (L : Nat → Int) (X : Nat → Prop) (w : World) (hn : n ≤ 64) (hk0 : k ≤ 1) (hk1 : 1 ≤ k) (hkf : k ≤ f) (hkn : k ≤ n) (hB : B ≤ w.heap.size)
    (hk : w.heap[Bk]? = some (.cells #[.int .i64 k] 3)) (hN : w.heap[Bn]? = some (.cells #[.int .i64 n] 3)) (hS : w.heap[Bs]? = some (.cells #[.nilFunc] 41)) (xk : X Bk) (xn : X Bn) (xs : X Bs)
    (h0 : c ≠ 0) (hm : m < k) : Iterates B n f X c m L (c + n) k 42 #[.pointer (some ⟨Bk, 0, none⟩), .pointer (some ⟨Bn, 0, none⟩), .pointer (some ⟨Bs, 0, none⟩)] w := by
  intro J' l q W1 hA hY hj old hz hXb
  have P0 : PB Bk Bn Bs k n X W1 W1 := ⟨by have := blk_lt hk; omega, by have := blk_lt hN; omega, by have := blk_lt hS; omega, (old Bk (blk_lt hk)).trans hk, (old Bn (blk_lt hN)).trans hN, (old Bs (blk_lt hS)).trans hS, Same.refl _ _, Nat.le_refl _⟩
  have k1 := cells_at (i := 0) (v := .int .i64 k) P0.bk rfl
  have n1 := cells_at (i := 0) (v := .int .i64 n) P0.bn rfl
  have hmk := fun w => run_make_row' (P := Yba.prog) 30 3 (.int .i64 0) 8 Yba.underlying30 Yba.info3 rfl .i64 .i64 k (by omega) (by omega) w
  have hnf := neq41
  have hkz : ((0 : Nat) : Int) < (k : Int) := by omega
  have dz1 : decide (n < k) = false := decide_eq_false (by omega)
  have dz2 : decide ((k : Int) < 0) = false := decide_eq_false (by omega)
  have dz3 : decide (1 < k) = false := decide_eq_false (by omega)
  have dz4 : decide ((1 : Int) < (k : Int)) = false := decide_eq_false (by omega)
  have g1 : IRow (W1.alloc (.cells (madeCells #[.int .i64 0] k) 3)) W1.heap.size k (fun _ => 0) := IRow.of_rowIs (World.rowIs_made W1 (.int .i64 0) k 3) (Nat.le_refl _)
  have hj1 : J' (fun b => X b ∨ b = W1.heap.size) c m L (W1.alloc (.cells (madeCells #[.int .i64 0] k) 3)) := hA.turn (hA.weak hj (fun b hb => hb.elim .inl (fun e => .inr (by omega)))) ((Chg.refl B _ W1).alloc (by omega) _)
  have P1 := P0.alloc (.cells (madeCells #[.int .i64 0] k) 3)
  refine callsIn_wide.2 ?_
  go_enter Yba.func42, Yba.ntmps42
  go_wp2
  obtain ⟨Wg, hWg⟩ : ∃ Wg, W1.alloc (.cells (madeCells #[.int .i64 0] k) 3) = Wg := ⟨_, rfl⟩
  obtain ⟨g, hg⟩ : ∃ g, W1.heap.size = g := ⟨_, rfl⟩
  rw [hWg] at g1 hj1 P1 ⊢
  rw [hg] at g1 hj1 ⊢
  clear hWg hmk
  have c0 := g1.cell (i := 0) (by omega)
  have f0 := g1.frozen 0
  refine wp_loop_rounds 2 ?_
  rw [rounds_succ]
  go_wp2
  rw [rounds_succ]
  go_wp2
  go_loopg [7] n (fun gk s7 wr => ∃ x m' : Nat, ∃ L' : Nat → Int, x < n ∧ gk = n - x ∧ IRow wr g k (fun _ => (x : Int)) ∧ Hid (Follows n f (c + x) m' L' k (fun _ => (x : Int))) ∧ Hid (J' (fun b => X b ∨ b = g) (c + x) m' L' wr) ∧ PB Bk Bn Bs k n X W1 wr)
  case atStart =>
    refine ⟨0, m, L, by omega, by omega, (g1.set 0 0).congr (fun i hi => by simp), ?_, ?_, ?_⟩
    · exact ⟨fun h => absurd h h0, hkf, fun i hi => by simp, fun i hi => by simp; omega, fun i hi => by omega, fun _ => .inl hm⟩
    · exact hA.turn hj1 ((Chg.refl B _ Wg).setCell (p := ⟨g, 0, none⟩) (by (try dsimp only); omega) (.inl (.inr rfl)) _)
    · subst hg; exact P1.set 0 _
  case round =>
    obtain ⟨x, m', L', hx, rfl, hr, hF, hj2, P2⟩ := hrel
    have k2 := cells_at (i := 0) (v := .int .i64 k) P2.bk rfl
    have n2 := cells_at (i := 0) (v := .int .i64 n) P2.bn rfl
    have s2 := cells_at (i := 0) (v := .nilFunc) P2.bs rfl
    go_wp2
    refine wp_loop_rounds 1 ?_
    rw [rounds_succ]
    go_upto_region 15 with fail
    obtain ⟨fn, tm, asg, bod, hy, hR⟩ := hY _ (c + x) m' L' g k (fun _ => (x : Int)) _ hj2.out (.inr rfl) hr hF.out (fun b hb => hb.elim (fun x => Nat.lt_of_lt_of_le (hXb b x) P2.size) (fun e => e ▸ hr.lt)) (q - 1)
    refine (wpIn_wide (n := q)).1 ?_
    gi_wp2
    refine ⟨fun h => by simp [Fence.wide] at h, hR.mono ?_⟩
    clear hR hy
    rintro e W3 ⟨rfl, hj3, hs3, hz3⟩
    have P3 := P2.yield xk xn xs hs3 hz3
    have r3 : IRow W3 g k (fun _ => (x : Int)) := hr.of_block (hs3 g hr.lt (.inr rfl))
    have k3 := cells_at (i := 0) (v := .int .i64 k) P3.bk rfl
    have n3 := cells_at (i := 0) (v := .int .i64 n) P3.bn rfl
    have c3 := r3.cell (i := 0) (by omega)
    have f3 := r3.frozen 0
    gi_wp2
    obtain rfl : k = 1 := by omega
    go_wp2
    by_cases hlast : x + 1 = n
    · have e1 : ((x : Int) == (n : Int) - 1) = true := by simp; omega
      have hl : Hid (c + x + 1 = c + n) := by show c + x + 1 = c + n; omega
      clear hlast
      refine wp_loop_rounds 2 ?_
      rw [rounds_succ]
      go_wp2
      go_quiet (fail)
      go_wp2
      rw [rounds_succ]
      go_wp2
      go_quiet (fail)
      go_wp2
      refine bodyPost_ret (results_none rfl _ _ _) rfl ?_
      exact ⟨⟨_, rfl⟩, ⟨fun _ => (x : Int), by rw [← hl.out]; exact hA.weak (hA.turn hj3 ((Chg.refl B _ W3).drewN _)) (fun b hb => .inl (.inl hb))⟩, (P3.drewN _).same, P3.size⟩
    · have nk : ¬ Bk = g := by have := P3.lk; omega
      have nn : ¬ Bn = g := by have := P3.ln; omega
      have e1 : ((x : Int) == (n : Int) - 1) = false := by simp; omega
      refine wp_loop_rounds 1 ?_
      rw [rounds_succ]
      go_wp2
      go_quiet (fail)
      go_wp2
      refine wp_loop_rounds 1 ?_
      rw [rounds_succ]
      go_wp2
      go_roundg (n - (x + 1))
      case measure => omega
      case rel =>
        refine ⟨x + 1, 1, fun _ => (x : Int), by omega, rfl, ?_, ?_, ?_, ?_⟩
        · exact (r3.set 0 _).congr (fun i hi => by obtain rfl : i = 0 := by omega
                                                   simp)
        · exact ⟨fun h => by omega, hkf, fun i hi => by simp; omega, fun i hi => by simp; omega, fun i hi => by omega, fun _ => .inr ⟨rfl, 0, by omega, fun i hi => by omega, by simp; omega⟩⟩
        · exact hA.turn hj3 (((Chg.refl B _ W3).setCell (p := ⟨g, 0, none⟩) (by (try dsimp only); omega) (.inl (.inr rfl)) _).drewN _)
        · subst hg; exact (P3.set 0 _).drewN _
end Go.Proofs.Ybulkyva
