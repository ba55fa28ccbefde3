import Derived.Test.YbulkyvaPruned1
namespace Go.Proofs.Ybulkyva
open Go.RowKit Go.Shelf
set_option linter.unusedVariables false
attribute [local go_sem] Oper.semAt_some

/-- The set of two numbers. -/
def fs (x y : Nat) (i : Nat) : Int := if i = 0 then (x : Int) else (y : Int)
theorem fs_0 (x y : Nat) : fs x y 0 = x := rfl
theorem fs_1 (x y : Nat) : fs x y 1 = y := rfl
theorem pb_succ (n x : Nat) : pb n (x + 1) = pb n x + (n - 1 - x) := rfl
theorem two_cases {i : Nat} (h : i < 2) : i = 0 ∨ i = 1 := by omega

set_option maxHeartbeats 4000000 in
set_option maxRecDepth 100000 in
theorem pruned2 (B n f c m k Bk Bn Bs : Nat) (L : Nat → Int) (X : Nat → Prop) (w : World) (hn : n ≤ 64) (hk0 : k ≤ 2) (hk1 : 2 ≤ k) (hkf : k ≤ f) (hkn : k ≤ n) (hB : B ≤ w.heap.size)
    (hk : w.heap[Bk]? = some (.cells #[.int .i64 k] 3)) (hN : w.heap[Bn]? = some (.cells #[.int .i64 n] 3)) (hS : w.heap[Bs]? = some (.cells #[.nilFunc] 41)) (xk : X Bk) (xn : X Bn) (xs : X Bs)
    (h0 : c ≠ 0) (hm : m < k) : Iterates B n f X c m L (c + pb n (n - 1)) k 42 #[.pointer (some ⟨Bk, 0, none⟩), .pointer (some ⟨Bn, 0, none⟩), .pointer (some ⟨Bs, 0, none⟩)] w := by
  intro J' l q W1 hA hY hj old hz hXb
  have P0 : PB Bk Bn Bs k n X W1 W1 := ⟨by have := blk_lt hk; omega, by have := blk_lt hN; omega, by have := blk_lt hS; omega, (old Bk (blk_lt hk)).trans hk, (old Bn (blk_lt hN)).trans hN, (old Bs (blk_lt hS)).trans hS, Same.refl _ _, Nat.le_refl _⟩
  have k1 := cells_at (i := 0) (v := .int .i64 k) P0.bk rfl
  have n1 := cells_at (i := 0) (v := .int .i64 n) P0.bn rfl
  have hmk := fun w => run_make_row' (P := Yba.prog) 30 3 (.int .i64 0) 8 Yba.underlying30 Yba.info3 rfl .i64 .i64 k (by omega) (by omega) w
  have hnf := neq41
  have hkz : ((0 : Nat) : Int) < (k : Int) := by omega
  have dz1 : decide (n < k) = false := decide_eq_false (by omega)
  have dz2 : decide ((k : Int) < 0) = false := decide_eq_false (by omega)
  have dz3 : decide (1 < k) = true := decide_eq_true (by omega)
  have dz4 : decide ((1 : Int) < (k : Int)) = true := decide_eq_true (by omega)
  have dz5 : decide (2 < k) = false := decide_eq_false (by omega)
  have dz6 : decide ((2 : Int) < (k : Int)) = false := decide_eq_false (by omega)
  have g1 : IRow (W1.alloc (.cells (madeCells #[.int .i64 0] k) 3)) W1.heap.size k (fun _ => 0) := IRow.of_rowIs (World.rowIs_made W1 (.int .i64 0) k 3) (Nat.le_refl _)
  have hj1 : J' (fun b => X b ∨ b = W1.heap.size) c m L (W1.alloc (.cells (madeCells #[.int .i64 0] k) 3)) := hA.turn (hA.weak hj (fun b hb => hb.elim .inl (fun e => .inr (by omega)))) ((Chg.refl B _ W1).alloc (by omega) _)
  have P1 := P0.alloc (.cells (madeCells #[.int .i64 0] k) 3)
  refine callsIn_wide.2 ?_
  go_enter Yba.func42, Yba.ntmps42
  go_wp2
  obtain ⟨Wg, hWg⟩ : ∃ Wg, W1.alloc (.cells (madeCells #[.int .i64 0] k) 3) = Wg := ⟨_, rfl⟩
  obtain ⟨g, hg⟩ : ∃ g, W1.heap.size = g := ⟨_, rfl⟩
  rw [hWg] at g1 hj1 P1 ⊢
  rw [hg] at g1 hj1 ⊢
  clear hWg hmk
  have c0 := g1.cell (i := 0) (by omega)
  have f0 := g1.frozen 0
  have c1 := g1.cell (i := 1) (by omega)
  have f1 := g1.frozen 1
  refine wp_loop_rounds 3 ?_
  rw [rounds_succ]
  go_wp2
  rw [rounds_succ]
  go_wp2
  rw [rounds_succ]
  go_wp2
  go_loopg [7] (n * (n + 1) + (n - 1)) (fun gk s7 wr => ∃ x y m' : Nat, ∃ L' : Nat → Int, x < y ∧ y < n ∧ gk = (n - x) * (n + 1) + (n - y) ∧ IRow wr g k (fs x y) ∧ Hid (Follows n f (c + (pb n x + (y - x - 1))) m' L' k (fs x y)) ∧ Hid (J' (fun b => X b ∨ b = g) (c + (pb n x + (y - x - 1))) m' L' wr) ∧ PB Bk Bn Bs k n X W1 wr)
  case atStart =>
    refine ⟨0, 1, m, L, by omega, by omega, by rw [Nat.sub_zero], ((g1.set 0 0).set 1 1).congr (fun i hi => ?_), ?_, ?_, ?_⟩
    · rcases two_cases (show i < 2 by omega) with rfl | rfl <;> simp [fs]
    · refine ⟨fun h => absurd h (by omega), hkf, fun i hi => ?_, fun i hi => ?_, fun i hi => ?_, fun _ => .inl hm⟩
      · rcases two_cases (show i < 2 by omega) with rfl | rfl <;> simp [fs]
      · rcases two_cases (show i < 2 by omega) with rfl | rfl <;> simp [fs] <;> omega
      · obtain rfl : i = 0 := by omega
        simp [fs]
    · exact hA.turn hj1 (((Chg.refl B _ Wg).setCell (p := ⟨g, 0, none⟩) (by (try dsimp only); omega) (.inl (.inr rfl)) _).setCell (p := ⟨g, 1, none⟩) (by (try dsimp only); omega) (.inl (.inr rfl)) _)
    · subst hg; exact (P1.set 0 _).set 1 _
  case round =>
    obtain ⟨x, y, m', L', hxy, hy, hgk, hr, hF, hj2, P2⟩ := hrel
    have HG : Hid (gk = (n - x) * (n + 1) + (n - y)) := hgk
    clear hgk
    have k2 := cells_at (i := 0) (v := .int .i64 k) P2.bk rfl
    have n2 := cells_at (i := 0) (v := .int .i64 n) P2.bn rfl
    have s2 := cells_at (i := 0) (v := .nilFunc) P2.bs rfl
    go_wp2
    refine wp_loop_rounds 1 ?_
    rw [rounds_succ]
    go_upto_region 15 with fail
    obtain ⟨fn, tm, asg, bod, hyy, hR⟩ := hY _ (c + (pb n x + (y - x - 1))) m' L' g k (fs x y) _ hj2.out (.inr rfl) hr hF.out (fun b hb => hb.elim (fun x => Nat.lt_of_lt_of_le (hXb b x) P2.size) (fun e => e ▸ hr.lt)) (q - 1)
    refine (wpIn_wide (n := q)).1 ?_
    gi_wp2
    refine ⟨fun h => by simp [Fence.wide] at h, hR.mono ?_⟩
    clear hR hyy
    rintro e W3 ⟨rfl, hj3', hs3, hz3⟩
    have hj3 : Hid (J' (fun b => X b ∨ b = g) (c + (pb n x + (y - x - 1)) + 1) k (fs x y) W3) := hj3'
    clear hj3'
    have P3 := P2.yield xk xn xs hs3 hz3
    have r3 : IRow W3 g k (fs x y) := hr.of_block (hs3 g hr.lt (.inr rfl))
    have k3 := cells_at (i := 0) (v := .int .i64 k) P3.bk rfl
    have n3 := cells_at (i := 0) (v := .int .i64 n) P3.bn rfl
    have c3 := r3.cell (i := 0) (by omega)
    have c4 := r3.cell (i := 1) (by omega)
    rw [fs_0] at c3
    rw [fs_1] at c4
    have f3 := r3.frozen 0
    have f4 := r3.frozen 1
    have nk : ¬ Bk = g := by have := P3.lk; omega
    have nn : ¬ Bn = g := by have := P3.ln; omega
    gi_wp2
    obtain rfl : k = 2 := by omega
    go_wp2
    by_cases hly : y + 1 = n
    · by_cases hlx : x + 2 = n
      · have e1 : ((y : Int) == (n : Int) - 2 + 1) = true := by simp; omega
        have e2 : ((x : Int) == (n : Int) - 2) = true := by simp; omega
        have e3 : ((y : Int) == (n : Int) - 1) = true := by simp; omega
        refine wp_loop_rounds 3 ?_
        rw [rounds_succ]
        go_wp2
        go_quiet (fail)
        go_wp2
        rw [rounds_succ]
        go_wp2
        go_quiet (fail)
        go_wp2
        rw [rounds_succ]
        go_wp2
        go_quiet (fail)
        go_wp2
        have hp : pb n (n - 1) = pb n x + 1 := by
          have : n - 1 = x + 1 := by omega
          rw [this, pb_succ]; omega
        have hl : c + (pb n x + (y - x - 1)) + 1 = c + pb n (n - 1) := by rw [hp]; omega
        refine bodyPost_ret (results_none rfl _ _ _) rfl ?_
        exact ⟨⟨_, rfl⟩, ⟨fs x y, by rw [← hl]; exact hA.weak (hA.turn hj3.out ((Chg.refl B _ W3).drewN _)) (fun b hb => .inl (.inl hb))⟩, (P3.drewN _).same, P3.size⟩
      · have e1 : ((y : Int) == (n : Int) - 2 + 1) = true := by simp; omega
        have e2 : ((x : Int) == (n : Int) - 2) = false := by simp; omega
        have e3 : ((y : Int) == (n : Int) - 1) = true := by simp; omega
        refine wp_loop_rounds 2 ?_
        rw [rounds_succ]
        go_wp2
        go_quiet (fail)
        go_wp2
        rw [rounds_succ]
        go_wp2
        go_quiet (fail)
        go_wp2
        refine wp_loop_rounds 2 ?_
        rw [rounds_succ]
        go_wp2
        rw [rounds_succ]
        go_wp2
        have hc : c + (pb n (x + 1) + ((x + 2) - (x + 1) - 1)) = c + (pb n x + (y - x - 1)) + 1 := by rw [pb_succ]; omega
        go_roundg ((n - (x + 1)) * (n + 1) + (n - (x + 2)))
        case measure =>
          rw [HG.out]
          have : (n - x) * (n + 1) = (n - (x + 1)) * (n + 1) + (n + 1) := by
            have : n - x = (n - (x + 1)) + 1 := by omega
            rw [this, Nat.succ_mul]
          omega
        case rel =>
          refine ⟨x + 1, x + 2, 2, fs x y, by omega, by omega, rfl, ?_, ?_, ?_, ?_⟩
          · refine ((r3.set 0 _).set 1 _).congr (fun i hi => ?_)
            rcases two_cases hi with rfl | rfl
            · simp [fs]
            · simp [fs]; omega
          · refine ⟨fun h => absurd h (by omega), hkf, fun i hi => ?_, fun i hi => ?_, fun i hi => ?_, fun _ => .inr ⟨rfl, 0, by omega, fun i hi => by omega, by simp [fs]; omega⟩⟩
            · rcases two_cases hi with rfl | rfl <;> simp [fs] <;> omega
            · rcases two_cases hi with rfl | rfl <;> simp [fs] <;> omega
            · obtain rfl : i = 0 := by omega
              simp [fs]
          · rw [hc]
            exact hA.turn hj3.out ((((Chg.refl B _ W3).setCell (p := ⟨g, 0, none⟩) (by (try dsimp only); omega) (.inl (.inr rfl)) _).setCell (p := ⟨g, 1, none⟩) (by (try dsimp only); omega) (.inl (.inr rfl)) _).drewN _)
          · subst hg; exact ((P3.set 0 _).set 1 _).drewN _
    · have e1 : ((y : Int) == (n : Int) - 2 + 1) = false := by simp; omega
      have e3 : ((y : Int) == (n : Int) - 1) = false := by simp; omega
      refine wp_loop_rounds 1 ?_
      rw [rounds_succ]
      go_wp2
      go_quiet (fail)
      go_wp2
      refine wp_loop_rounds 1 ?_
      rw [rounds_succ]
      go_wp2
      have hc : c + (pb n x + ((y + 1) - x - 1)) = c + (pb n x + (y - x - 1)) + 1 := by omega
      go_roundg ((n - x) * (n + 1) + (n - (y + 1)))
      case measure => rw [HG.out]; omega
      case rel =>
        refine ⟨x, y + 1, 2, fs x y, by omega, by omega, rfl, ?_, ?_, ?_, ?_⟩
        · refine (r3.set 1 _).congr (fun i hi => ?_)
          rcases two_cases hi with rfl | rfl <;> simp [fs]
        · refine ⟨fun h => absurd h (by omega), hkf, fun i hi => ?_, fun i hi => ?_, fun i hi => ?_, fun _ => .inr ⟨rfl, 1, by omega, fun i hi => ?_, by simp [fs]; omega⟩⟩
          · rcases two_cases hi with rfl | rfl <;> simp [fs] <;> omega
          · rcases two_cases hi with rfl | rfl <;> simp [fs] <;> omega
          · obtain rfl : i = 0 := by omega
            simp [fs]; omega
          · obtain rfl : i = 0 := by omega
            simp [fs]
        · rw [hc]
          exact hA.turn hj3.out (((Chg.refl B _ W3).setCell (p := ⟨g, 1, none⟩) (by (try dsimp only); omega) (.inl (.inr rfl)) _).drewN _)
        · subst hg; exact (P3.set 1 _).drewN _
end Go.Proofs.Ybulkyva
