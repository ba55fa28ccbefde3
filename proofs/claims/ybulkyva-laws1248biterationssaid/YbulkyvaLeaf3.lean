import Derived.Test.YbulkyvaLeaf2
import Derived.Deep.RegionHeld3
namespace Go.Proofs.Ybulkyva
open Go.RowKit
set_option linter.unusedVariables false

/-! ### zzs1248bcount (16) -/
/-- Pairs of numbers under n whose first is under x. -/
def pb (n : Nat) : Nat → Nat
  | 0 => 0
  | x + 1 => pb n x + (n - 1 - x)
/-- How many candidate sets there are. -/
def cnt (n f : Nat) : Nat := 1 + (if 1 ≤ f ∧ 1 ≤ n then n else 0) + (if 2 ≤ f ∧ 2 ≤ n then pb n (n - 1) else 0)

theorem pb_all : ∀ n : Nat, n ≤ 64 → ((n : Int) * (n - 1)).tdiv 2 = (pb n (n - 1) : Int) := by
  intro n hn
  have : ∀ n : Nat, n < 65 → ((n : Int) * (n - 1)).tdiv 2 = (pb n (n - 1) : Int) := by decide
  exact this n (by omega)
theorem pb_small : ∀ n, n ≤ 64 → pb n (n - 1) ≤ 2016 := by
  intro n hn
  have : ∀ n, n < 65 → pb n (n - 1) ≤ 2016 := by decide
  exact this n (by omega)

set_option maxHeartbeats 1000000 in
theorem count_calls (n f : Nat) (w : World) (hn : n ≤ 64) (hf : f ≤ 2) : Calls Yba.prog 16 #[.int .i64 n, .int .i64 f] w fun e w' => e = .returned (.int .i64 (cnt n f)) ∧ w = w' := by
  have e1 := pb_all n hn
  have e2 := pb_small n hn
  by_cases c1 : 1 ≤ f ∧ 1 ≤ n
  · by_cases c2 : 2 ≤ f ∧ 2 ≤ n
    · have H : Hid (cnt n f = 1 + n + pb n (n - 1)) := by show cnt n f = _; simp [cnt, c1, c2]
      have a1 : (f : Int) ≥ 1 := by omega
      have a2 : (n : Int) ≥ 1 := by omega
      have a3 : (f : Int) ≥ 2 := by omega
      have a4 : (n : Int) ≥ 2 := by omega
      have m1 : (n : Int) * (n - 1) ≤ 64 * 64 := Int.mul_le_mul (by omega) (by omega) (by omega) (by omega)
      have m0 : 0 ≤ (n : Int) * (n - 1) := Int.mul_nonneg (by omega) (by omega)
      clear c1 c2
      go_enter Yba.func16, Yba.ntmps16
      go_wp2
      go_ret
      refine ⟨?_, rfl⟩
      rw [H.out]
      simp
    · have H : Hid (cnt n f = 1 + n) := by show cnt n f = _; simp [cnt, c1, c2]
      have a1 : (f : Int) ≥ 1 := by omega
      have a2 : (n : Int) ≥ 1 := by omega
      by_cases a3 : (f : Int) ≥ 2
      · have a4 : ¬ (n : Int) ≥ 2 := by omega
        clear c1 c2
        go_enter Yba.func16, Yba.ntmps16
        go_wp2
        go_ret
        refine ⟨?_, rfl⟩
        rw [H.out]
        go_num
      · clear c1 c2
        go_enter Yba.func16, Yba.ntmps16
        go_wp2
        go_ret
        refine ⟨?_, rfl⟩
        rw [H.out]
        go_num
  · have H : Hid (cnt n f = 1) := by
      have c2 : ¬ (2 ≤ f ∧ 2 ≤ n) := by omega
      show cnt n f = _; simp [cnt, c1, c2]
    by_cases a1 : (f : Int) ≥ 1
    · have a2 : ¬ (n : Int) ≥ 1 := by omega
      have a4 : ¬ (n : Int) ≥ 2 := by omega
      by_cases a3 : (f : Int) ≥ 2
      · clear c1
        go_enter Yba.func16, Yba.ntmps16
        go_wp2
        go_ret
        refine ⟨?_, rfl⟩
        rw [H.out]
        go_num
      · clear c1
        go_enter Yba.func16, Yba.ntmps16
        go_wp2
        go_ret
        refine ⟨?_, rfl⟩
        rw [H.out]
        go_num
    · have a3 : ¬ (f : Int) ≥ 2 := by omega
      clear c1
      go_enter Yba.func16, Yba.ntmps16
      go_wp2
      go_ret
      refine ⟨?_, rfl⟩
      rw [H.out]
      go_num

/-! ### within (35) -/
set_option maxHeartbeats 1000000 in
theorem within_calls (p q r s : Bool) (w : World) : Calls Yba.prog 35 #[.agg #[.bool p, .bool q], .agg #[.bool r, .bool s]] w fun e w' => e = .returned (.bool ((!p || r) && (!q || s))) ∧ Below w.heap.size w w' := by
  have hb : Below w.heap.size w ((w.alloc (.cells #[.bool p, .bool q] 66)).alloc (.cells #[.bool r, .bool s] 66)) := (below_one _ _).alloc (by simp) _
  cases p <;> cases q <;> cases r <;> cases s <;>
  · go_enter Yba.func35, Yba.ntmps35
    go_wp2
    go_ret
    exact ⟨rfl, hb⟩

/-! ### numFaulty (32) -/
set_option maxHeartbeats 1000000 in
set_option maxRecDepth 100000 in
theorem numf_calls (inp st : Value) (fa : Option Addr) (fl fc : Nat) (Fa : Nat → Bool) (w : World) (hf : fl ≤ 1024) (h : Marks w fa fl fc fl Fa) :
    Calls Yba.prog 32 #[.agg #[inp, .slice fa fl fc, st]] w fun e w' => ∃ z : Int, e = .returned (.int .i64 z) ∧ Below w.heap.size w w' := by
  rcases h with ⟨rfl, rfl, rfl, h⟩ | ⟨b, o, rfl, hn, hl, hc⟩
  · go_enter Yba.func32, Yba.ntmps32
    go_wp2
    refine wp_loop_rounds 1 ?_
    rw [rounds_succ]
    go_wp2
    go_ret
    exact ⟨_, rfl, below_one _ _⟩
  · go_enter Yba.func32, Yba.ntmps32
    go_wp2
    go_loop [3, 9] (fun s i => ∃ k : Nat, k ≤ fl ∧ i = .int .i64 k ∧ ∃ z : Int, s = .int .i64 z) (fun _ i => fl - (intOf i).toNat)
    case atStart => exact ⟨0, Nat.zero_le _, rfl, 0, rfl⟩
    case round =>
      obtain ⟨k, hk, rfl, z, rfl⟩ := hrel
      by_cases hlt : k < fl
      · have c := (below_one w (.cells #[inp, .slice (some ⟨b, o, none⟩) fl fc, st] 51)).cell (p := ⟨b, o + k, none⟩) hl |>.trans (hc k hlt)
        cases hF : Fa k
        · rw [hF] at c
          go_wp2
          go_round
          case rel => exact ⟨k + 1, by omega, by go_num, _, rfl⟩
          case measure => simp [intOf]; omega
        · rw [hF] at c
          go_wp2
          go_round
          case rel => exact ⟨k + 1, by omega, by go_num, _, rfl⟩
          case measure => simp [intOf]; omega
      · obtain rfl : k = fl := by omega
        go_wp2
        go_ret
        exact ⟨⟨_, rfl⟩, below_one _ _⟩

theorem cells_at {w : World} {g t i : Nat} {c : Array Value} {v : Value} (h : w.heap[g]? = some (.cells c t)) (hi : c[i]? = some v) : w.cell? ⟨g, i, none⟩ = some v := by simp [World.cell?, h, hi]
theorem frozen_at {w : World} {g t : Nat} {c : Array Value} (h : w.heap[g]? = some (.cells c t)) (i : Nat) : w.frozen? ⟨g, i, none⟩ = false := by simp [World.frozen?, h]
theorem blk_set {w : World} {g t : Nat} {c : Array Value} (h : w.heap[g]? = some (.cells c t)) (i : Nat) (v : Value) : (w.setCell ⟨g, i, none⟩ v).heap[g]? = some (.cells (c.setIfInBounds i v) t) := by
  show (w.heap.modify g _)[g]? = _
  rw [Array.getElem?_modify]
  simp [h]
theorem blk_lt {w : World} {g : Nat} {o : Obj} (h : w.heap[g]? = some o) : g < w.heap.size := (Array.getElem?_eq_some_iff.1 h).1
theorem blk_new (w : World) (o : Obj) : (w.alloc o).heap[w.heap.size]? = some o := World.alloc_heap_new w o

/-! ### newInvariants (24) -/
set_option maxHeartbeats 1000000 in
set_option maxRecDepth 100000 in
theorem newinv_calls (inp st : Value) (fa : Option Addr) (fl fc : Nat) (Fa : Nat → Bool) (w : World) (hf : fl ≤ 1024) (h : Marks w fa fl fc fl Fa) :
    Calls Yba.prog 24 #[.agg #[inp, .slice fa fl fc, st]] w fun e w' => ∃ (g : Nat) (z : Int), e = .returned (.pointer (some ⟨g, 0, none⟩)) ∧ Below w.heap.size w w' ∧ w.heap.size ≤ g ∧
      w'.heap[g]? = some (.cells #[inp, .slice fa fl fc, st, .int .i64 z, .bool false, .bool true] 88) := by
  have hb1 := below_one w (.cells #[inp, .slice fa fl fc, st] 51)
  have hn := blk_new w (.cells #[inp, .slice fa fl fc, st] 51)
  have hM := h.below hb1
  go_enter Yba.func24, Yba.ntmps24
  go_wp2
  go_region_held3 (fun w' => w'.cell? ⟨w.heap.size, 0, none⟩ = some inp ∧ w'.cell? ⟨w.heap.size, 1, none⟩ = some (.slice fa fl fc) ∧ w'.cell? ⟨w.heap.size, 2, none⟩ = some st) (go_keep)
    (first
      | (go_at_call 32; refine (numf_calls inp st fa fl fc Fa _ hf ?_).mono ?_; exact hM; rintro e w1 ⟨z, rfl, hb2⟩; have hq := (hb2.block w.heap.size (by simp)).trans hn; have c0 := cells_at (i := 0) hq rfl; have c1 := cells_at (i := 1) hq rfl; have c2 := cells_at (i := 2) hq rfl)
      | fail)
  go_wp2
  go_ret
  have hz : (w.alloc (.cells #[inp, .slice fa fl fc, st] 51)).heap.size ≤ w1.heap.size := hb2.size
  rw [World.size_alloc] at hz
  refine ⟨w1.heap.size, z, rfl, ?_, by omega, ?_⟩
  · exact ((hb1.drew.trans (hb2.mono (by show w.heap.size ≤ (w.alloc _).heap.size; simp))).alloc (by omega) _)
  · exact blk_new w1 _

/-! ### report (37) -/
set_option maxHeartbeats 1000000 in
set_option maxRecDepth 100000 in
theorem report_calls (g o : Nat) (i0 i1 i2 i3 : Value) (b1 b2 : Bool) (d a v t x y r m s : Value) (w : World) (hne : g ≠ o)
    (hi : w.heap[g]? = some (.cells #[i0, i1, i2, i3, .bool b1, .bool b2] 88)) (ho : w.heap[o]? = some (.cells #[d, a, v, t, x, y, r, m, s] 61)) :
    Calls Yba.prog 37 #[.pointer (some ⟨g, 0, none⟩), .pointer (some ⟨o, 0, none⟩)] w fun e w' => (∃ z, e = .returned z) ∧ Chg o (fun b => b = o) w w' ∧
      w'.heap[o]? = some (.cells #[d, a, v, t, .bool b1, .bool b2, r, m, s] 61) := by
  have q1 := cells_at (i := 4) hi rfl
  have q2 := cells_at (i := 5) hi rfl
  have p1 := cells_at (i := 4) ho rfl
  have p2 := cells_at (i := 5) ho rfl
  have f1 := frozen_at ho 4
  have f2 := frozen_at ho 5
  go_enter Yba.func37, Yba.ntmps37
  go_wp2
  go_region
  go_wp2
  go_end0
  refine ⟨⟨_, rfl⟩, ?_, ?_⟩
  · exact (((Chg.refl o (fun b => b = o) w).setCell (p := ⟨o, 4, none⟩) (Nat.le_refl _) (.inl rfl) _).setCell (p := ⟨o, 5, none⟩) (Nat.le_refl _) (.inl rfl) _).drew
  · exact blk_set (blk_set ho 4 _) 5 _
end Go.Proofs.Ybulkyva
