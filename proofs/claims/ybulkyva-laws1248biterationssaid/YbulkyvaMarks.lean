import Derived.Test.YbulkyvaHeld
namespace Go.Proofs.Ybulkyva
open Go.RowKit
set_option linter.unusedVariables false

theorem Yba.info4 : (Yba.prog.info? 4).map (fun i => (i.zero, i.size, i.bytes)) = some (some (.bool false), 1, 1) := by kernel_rfl

/-- A slice of bools that came in. -/
def Bools (W : World) (a : Option Addr) (l c : Nat) (bs : Nat → Bool) : Prop :=
  (a = none ∧ l = 0 ∧ c = 0) ∨ ∃ x, a = some x ∧ l ≤ c ∧ c ≤ maxLen ∧ ∀ i, i < l → W.cell? (x.add i) = some (.bool (bs i))

/-- Is node i marked? -/
def inM (l : Nat) (bs : Nat → Bool) (i : Nat) : Bool := decide (i < l) && bs i
def markTo (l k : Nat) (bs : Nat → Bool) (j : Nat) : Value := .bool (decide (j < k) && (decide (j < l) && bs j))
theorem markTo_step (l k : Nat) (bs : Nat → Bool) (h : k < l) : (fun j => if j = k then Value.bool (bs k) else markTo l k bs j) = markTo l (k + 1) bs := by
  funext j
  unfold markTo
  by_cases e : j = k
  · subst e; simp [h]
  · simp only [e, if_false]
    by_cases h2 : j < k
    · simp [h2, show j < k + 1 by omega]
    · simp [h2, show ¬ j < k + 1 by omega]

theorem mark_made (w : World) (l : Nat) (bs : Nat → Bool) (m : Nat) : (w.alloc (.cells (madeCells #[Value.bool false] m) 4)).rowIs w.heap.size 4 m (markTo l 0 bs) :=
  (World.rowIs_made w (.bool false) m 4).congr (fun i _ => by simp [markTo])

theorem mark_end {w : World} {g l m n : Nat} {bs : Nat → Bool} (h : w.rowIs g 4 m (markTo l l bs)) (hn : n ≤ m) : Marks w (some ⟨g, 0, none⟩) m m n (inM l bs) :=
  .inr ⟨g, 0, rfl, hn, h.lt, fun i hi => by rw [Nat.zero_add, h.cell (by omega)]; simp [markTo, inM]⟩

set_option maxHeartbeats 2000000 in
set_option maxRecDepth 100000 in
theorem marks_some (n m : Nat) (b o l c : Nat) (bs : Nat → Bool) (w : World) (hn : n ≤ 1024) (hl : l ≤ 1024) (hm : (l ≤ n ∧ m ≤ n ∧ n ≤ m) ∨ (n < l ∧ m ≤ l ∧ l ≤ m)) (hb : b < w.heap.size) (hc : ∀ i, i < l → w.cell? ⟨b, o + i, none⟩ = some (.bool (bs i))) :
    Calls Yba.prog 17 #[.int .i64 n, .slice (some ⟨b, o, none⟩) l c] w fun e w' =>
      e = .returned (.slice (some ⟨w.heap.size, 0, none⟩) m m) ∧ w'.rowIs w.heap.size 4 m (markTo l l bs) ∧ Below w.heap.size w w' := by
  have hnil := fun (w : World) (a : Option Addr) (n c : Nat) => Lib.run_eql_slice_nil (P := Yba.prog) w 44 4 a n c 0 0 Yba.underlying44
  rcases hm with ⟨h1, h2, h3⟩ | ⟨h1, h2, h3⟩
  · obtain rfl : n = m := by omega
    have hmk := fun w => run_make_row' (P := Yba.prog) 44 4 (.bool false) 1 Yba.underlying44 Yba.info4 rfl .i64 .i64 n (by omega) (by omega) w
    have h1' : (l : Int) ≤ (n : Int) := by omega
    go_enter Yba.func17, Yba.ntmps17
    go_wp2
    clear hmk
    go_loopw [7] (fun i wr => ∃ k : Nat, k ≤ l ∧ i = .int .i64 k ∧ wr.rowIs w.heap.size 4 n (markTo l k bs) ∧ Below w.heap.size w wr) (fun i _ => l - (intOf i).toNat)
    case atStart => exact ⟨0, Nat.zero_le _, rfl, mark_made _ _ _ _, below_one _ _⟩
    case round =>
      obtain ⟨k, hk, rfl, H, hnx⟩ := hrel
      by_cases hlt : k < l
      · have cx := (hnx.cell (p := ⟨b, o + k, none⟩) hb).trans (hc k hlt)
        have cy := H.cell (i := k) (by omega)
        have fy := H.frozen k
        have hkn : k < n := by omega
        go_wp2
        go_roundw
        case rel => exact ⟨k + 1, by omega, by go_num, by rw [← markTo_step _ _ _ hlt]; exact H.set k _, hnx.setCell (Nat.le_refl _) _⟩
        case measure => simp [intOf]; omega
      · obtain rfl : k = l := by omega
        go_wp2
        go_ret
        exact ⟨rfl, H, hnx⟩
  · obtain rfl : l = m := by omega
    have hmk := fun w => run_make_row' (P := Yba.prog) 44 4 (.bool false) 1 Yba.underlying44 Yba.info4 rfl .i64 .i64 l (by omega) (by omega) w
    have h1' : (n : Int) < (l : Int) := by omega
    go_enter Yba.func17, Yba.ntmps17
    go_wp2
    clear hmk
    go_loopw [7] (fun i wr => ∃ k : Nat, k ≤ l ∧ i = .int .i64 k ∧ wr.rowIs w.heap.size 4 l (markTo l k bs) ∧ Below w.heap.size w wr) (fun i _ => l - (intOf i).toNat)
    case atStart => exact ⟨0, Nat.zero_le _, rfl, mark_made _ _ _ _, below_one _ _⟩
    case round =>
      obtain ⟨k, hk, rfl, H, hnx⟩ := hrel
      by_cases hlt : k < l
      · have cx := (hnx.cell (p := ⟨b, o + k, none⟩) hb).trans (hc k hlt)
        have cy := H.cell (i := k) (by omega)
        have fy := H.frozen k
        go_wp2
        go_roundw
        case rel => exact ⟨k + 1, by omega, by go_num, by rw [← markTo_step _ _ _ hlt]; exact H.set k _, hnx.setCell (Nat.le_refl _) _⟩
        case measure => simp [intOf]; omega
      · obtain rfl : k = l := by omega
        go_wp2
        go_ret
        exact ⟨rfl, H, hnx⟩

set_option maxHeartbeats 1000000 in
set_option maxRecDepth 100000 in
theorem marks_empty (n : Nat) (x : Addr) (l c : Nat) (bs : Nat → Bool) (w : World) (hn : n ≤ 1024) (hl : l ≤ 0) :
    Calls Yba.prog 17 #[.int .i64 n, .slice (some x) l c] w fun e w' =>
      e = .returned (.slice (some ⟨w.heap.size, 0, none⟩) n n) ∧ w'.rowIs w.heap.size 4 n (markTo 0 0 bs) ∧ Below w.heap.size w w' := by
  have hnil := fun (w : World) (a : Option Addr) (n c : Nat) => Lib.run_eql_slice_nil (P := Yba.prog) w 44 4 a n c 0 0 Yba.underlying44
  have hmk := fun w => run_make_row' (P := Yba.prog) 44 4 (.bool false) 1 Yba.underlying44 Yba.info4 rfl .i64 .i64 n (by omega) (by omega) w
  go_enter Yba.func17, Yba.ntmps17
  go_wp2
  refine wp_loop_rounds 1 ?_
  rw [rounds_succ]
  go_wp2
  go_ret
  exact ⟨rfl, mark_made _ _ _ _, below_one _ _⟩

set_option maxHeartbeats 1000000 in
theorem marks_nil (n : Nat) (w : World) :
    Calls Yba.prog 17 #[.int .i64 n, .slice none 0 0] w fun e w' => e = .returned (.slice none 0 0) ∧ Below w.heap.size w w' := by
  have hnil := fun (w : World) (a : Option Addr) (n c : Nat) => Lib.run_eql_slice_nil (P := Yba.prog) w 44 4 a n c 0 0 Yba.underlying44
  go_enter Yba.func17, Yba.ntmps17
  go_wp2
  go_ret
  exact ⟨rfl, Below.refl _ _⟩

theorem marks_calls (n : Nat) (a : Option Addr) (l c : Nat) (bs : Nat → Bool) (w : World) (hn : n ≤ 1024) (hl : l ≤ 1024) (h : Bools w a l c bs) :
    Calls Yba.prog 17 #[.int .i64 n, .slice a l c] w fun e w' =>
      ∃ fa fl fc, e = .returned (.slice fa fl fc) ∧ fl ≤ maxLen ∧ Marks w' fa fl fc n (inM l bs) ∧ Below w.heap.size w w' := by
  rcases h with ⟨rfl, rfl, rfl⟩ | ⟨x, rfl, hlc, hcm, hc⟩
  · refine (marks_nil n w).mono ?_
    rintro e w' ⟨rfl, hb⟩
    exact ⟨none, 0, 0, rfl, by unfold maxLen; omega, .inl ⟨rfl, rfl, rfl, fun i => by simp [inM]⟩, hb⟩
  · by_cases hp : 0 < l
    · obtain ⟨b, off, spot⟩ := x
      have hspot : spot = none := by simpa [Addr.add] using World.cell?_spot (hc 0 hp)
      subst hspot
      have hc' : ∀ i, i < l → w.cell? ⟨b, off + i, none⟩ = some (.bool (bs i)) := fun i hi => by rw [← Addr.add_lit]; exact hc i hi
      have hb := World.block_lt_of_cell? w _ (hc' 0 hp)
      by_cases hln : l ≤ n
      · refine (marks_some n n b off l c bs w hn hl (.inl ⟨hln, Nat.le_refl _, Nat.le_refl _⟩) hb hc').mono ?_
        rintro e w' ⟨rfl, hr, hb'⟩
        exact ⟨_, _, _, rfl, by unfold maxLen; omega, mark_end hr (Nat.le_refl _), hb'⟩
      · refine (marks_some n l b off l c bs w hn hl (.inr ⟨by omega, Nat.le_refl _, Nat.le_refl _⟩) hb hc').mono ?_
        rintro e w' ⟨rfl, hr, hb'⟩
        exact ⟨_, _, _, rfl, by unfold maxLen; omega, mark_end hr (by omega), hb'⟩
    · refine (marks_empty n x l c bs w hn (by omega)).mono ?_
      rintro e w' ⟨rfl, hr, hb'⟩
      obtain rfl : l = 0 := by omega
      exact ⟨_, _, _, rfl, by unfold maxLen; omega, mark_end hr (Nat.le_refl _), hb'⟩
end Go.Proofs.Ybulkyva
