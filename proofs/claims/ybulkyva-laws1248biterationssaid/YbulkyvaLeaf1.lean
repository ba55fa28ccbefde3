import Derived.Test.YbulkyvaChg
namespace Go.Proofs.Ybulkyva
open Go.RowKit
set_option linter.unusedVariables false
theorem Yba.info3 : (Yba.prog.info? 3).map (fun i => (i.zero, i.size, i.bytes)) = some (some (.int .i64 0), 1, 8) := by kernel_rfl

/-! ### slices.Clone (11) -/
def icells (n : Nat) (f : Nat → Int) : List Value := (List.range n).map (fun j => .int .i64 (f j))
theorem icells_get {n : Nat} {f : Nat → Int} {j : Nat} {u : Value} (h : (icells n f)[j]? = some u) : j < n ∧ u = .int .i64 (f j) := by
  have hj : j < n := by have := (List.getElem?_eq_some_iff.1 h).1; simpa [icells] using this
  simp [icells, hj] at h
  exact ⟨hj, h.symm⟩
theorem icells_one {n : Nat} {f : Nat → Int} : ∀ u ∈ icells n f, u.oneCell' = true := by
  intro u hu
  obtain ⟨j, _, rfl⟩ := List.mem_map.1 hu
  rfl

set_option maxHeartbeats 1000000 in
set_option maxRecDepth 100000 in
theorem clone_own (x : Addr) (n cap : Nat) (f : Nat → Int) (w : World) (hn : n ≤ 1024) (hx : ∀ i, i < n → w.cell? (x.add i) = some (.int .i64 (f i))) :
    Calls Yba.prog 11 #[.slice (some x) n cap] w fun e w' =>
      ∃ v, e = .returned v ∧ v ≠ .slice none 0 0 ∧ Below w.heap.size w w' ∧ w'.ownsRow w.heap.size 3 1 v n (icells n f) := by
  have hnil := fun (w : World) (a : Option Addr) (n c : Nat) => Lib.run_eql_slice_nil (P := Yba.prog) w 30 3 a n c 0 0 Yba.underlying30
  obtain ⟨i0, hi, hz0, hz1, hz2⟩ := info_parts Yba.info3
  have hown : (w.alloc (.cells #[] 3)).ownsRow w.heap.size 3 1 (.slice (some ⟨w.heap.size, 0, none⟩) 0 0) 0 [] := World.ownsRow_made w #[] 0 (Nat.le_refl _) (by simp [maxLen]) (by simp)
  have HX : Hid (∀ i, i < n → w.cell? (x.add i) = some (.int .i64 (f i))) := hx
  clear hx
  go_enter Yba.func11, Yba.ntmps11
  go_wp2_with (at_builtin; refine wpList_append_own _ rfl _ _ 30 rfl w.heap.size 3 i0 (.int .i64 0) 1 8 Yba.underlying30 hi hz0 hz1 hz2 rfl (by decide) _ _ _ rfl hown x n cap (icells n f) rfl (by simp [icells]) ?c1 icells_one ?c3 ?c4 ?c5 ?_)
  case c1 =>
    intro j u hu
    obtain ⟨hj, rfl⟩ := icells_get hu
    exact (below_one w (.cells #[] 3)).cell (World.block_lt_of_cell? w _ (HX.out j hj)) |>.trans (HX.out j hj)
  case c3 => unfold maxLen; omega
  case c4 => omega
  case c5 => simp
  intro v' w1 hown' hgrow hnil'
  clear hown
  have hv : v' ≠ .slice none 0 0 := hnil'
  clear hnil'
  go_wp2
  go_ret
  exact ⟨v', rfl, hv, (below_one _ _).grown hgrow (by simp) (fun k h => by simp [Value.ownBlock] at h; omega), by simpa using hown'⟩

set_option maxHeartbeats 1000000 in
theorem clone_nil (n cap : Nat) (w : World) : Calls Yba.prog 11 #[.slice none n cap] w fun e w' => e = .returned (.slice none 0 0) ∧ w = w' := by
  have hnil := fun (w : World) (a : Option Addr) (n c : Nat) => Lib.run_eql_slice_nil (P := Yba.prog) w 30 3 a n c 0 0 Yba.underlying30
  go_enter Yba.func11, Yba.ntmps11
  go_wp2
  go_ret
  exact ⟨rfl, rfl⟩

theorem sl_of_owns {w : World} {B : Nat} {v : Value} {n : Nat} {f : Nat → Int} (h : w.ownsRow B 3 1 v n (icells n f)) (hv : v ≠ .slice none 0 0) :
    ∃ g c, v = .slice (some ⟨g, 0, none⟩) n c ∧ B ≤ g ∧ g < w.heap.size ∧ IRow w g n f := by
  rcases h.2 with ⟨e, _⟩ | ⟨g, cap, cur, rfl, hg, hh, hn, _, hs, ht⟩
  · exact absurd e hv
  · simp only [Nat.mul_one] at hs ht
    refine ⟨g, cap, rfl, hg, (Array.getElem?_eq_some_iff.1 hh).1, cap, fun i => cur.getD i (.bool false), hn, ⟨cur, hh, hs, fun i hi => ?_⟩, fun i hi => ?_⟩
    · have : i < cur.size := by omega
      simp [Array.getD, this]
    · have hc : i < cur.size := by omega
      have e1 : (cur.toList.take n)[i]? = (icells n f)[i]? := by rw [ht]
      rw [List.getElem?_take, if_pos hi] at e1
      simp [icells, hi, hc] at e1
      simp [Array.getD, hc, e1]

/-- Clone, whatever the slice: a new slice of the same numbers, of a row of its own. -/
theorem clone_calls (a : Option Addr) (n cap : Nat) (f : Nat → Int) (w : World) (hn : n ≤ 1024) (h : n = 0 ∨ ∃ x, a = some x ∧ ∀ i, i < n → w.cell? (x.add i) = some (.int .i64 (f i))) :
    Calls Yba.prog 11 #[.slice a n cap] w fun e w' => ∃ a' g c, e = .returned (.slice a' n c) ∧ Below w.heap.size w w' ∧ w.heap.size ≤ g ∧ Sl w' a' n g f := by
  cases a with
  | none =>
    have h0 : n = 0 := by
      rcases h with h | ⟨x, hx, _⟩
      · exact h
      · cases hx
    subst h0
    refine (clone_nil 0 cap w).mono ?_
    rintro e w' ⟨rfl, rfl⟩
    exact ⟨none, w.heap.size, 0, rfl, Below.refl _ _, Nat.le_refl _, .inl rfl⟩
  | some x =>
    have hx : ∀ i, i < n → w.cell? (x.add i) = some (.int .i64 (f i)) := by
      rcases h with h | ⟨y, hy, hc⟩
      · intro i hi; omega
      · cases hy; exact hc
    refine (clone_own x n cap f w hn hx).mono ?_
    rintro e w' ⟨v, rfl, hv, hb, ho⟩
    obtain ⟨g, c, rfl, hg, hl, hr⟩ := sl_of_owns ho hv
    exact ⟨_, g, c, rfl, hb, hg, .inr ⟨rfl, hr⟩⟩

theorem clone_sl (a : Option Addr) (n cap g0 : Nat) (f : Nat → Int) (w : World) (hn : n ≤ 1024) (h : Sl w a n g0 f) :
    Calls Yba.prog 11 #[.slice a n cap] w fun e w' => ∃ a' g c, e = .returned (.slice a' n c) ∧ Below w.heap.size w w' ∧ w.heap.size ≤ g ∧ Sl w' a' n g f := by
  refine clone_calls a n cap f w hn ?_
  rcases h with h | ⟨rfl, h⟩
  · exact .inl h
  · exact .inr ⟨_, rfl, fun i hi => by rw [Addr.add_lit, Nat.zero_add]; exact h.cell hi⟩

/-! ### slices.Equal (10), at two slices of the same numbers -/
set_option maxHeartbeats 1000000 in
set_option maxRecDepth 100000 in
theorem equal_rows (b b' n c c' : Nat) (f : Nat → Int) (w : World) (hn : n ≤ 1024) (h : IRow w b n f) (h' : IRow w b' n f) :
    Calls Yba.prog 10 #[.slice (some ⟨b, 0, none⟩) n c, .slice (some ⟨b', 0, none⟩) n c'] w fun e w' => e = .returned (.bool true) ∧ Below w.heap.size w w' := by
  go_enter Yba.func10, Yba.ntmps10
  go_wp2
  go_loopw [13] (fun i wr => ∃ k : Nat, k ≤ n ∧ i = .int .i64 k ∧ Below w.heap.size w wr) (fun i _ => n - (intOf i).toNat)
  case atStart => exact ⟨0, Nat.zero_le _, rfl, Below.refl _ _⟩
  case round =>
    obtain ⟨k, hk, rfl, hb⟩ := hrel
    by_cases hlt : k < n
    · have q1 := (h.below hb).cell hlt
      have q2 := (h'.below hb).cell hlt
      go_wp2
      go_quiet (fail)
      go_wp2
      go_roundw
      case rel => exact ⟨k + 1, by omega, by go_num, below_drewN hb _⟩
      case measure => simp [intOf]; omega
    · obtain rfl : k = n := by omega
      go_wp2
      go_ret
      exact ⟨rfl, hb⟩

set_option maxHeartbeats 1000000 in
theorem equal_none (a a' : Option Addr) (n c c' : Nat) (w : World) (hn : n ≤ 0) :
    Calls Yba.prog 10 #[.slice a n c, .slice a' n c'] w fun e w' => e = .returned (.bool true) ∧ Below w.heap.size w w' := by
  go_enter Yba.func10, Yba.ntmps10
  go_wp2
  refine wp_loop_rounds 1 ?_
  rw [rounds_succ]
  go_wp2
  go_ret
  exact ⟨rfl, Below.refl _ _⟩

theorem equal_calls (a a' : Option Addr) (n g g' c c' : Nat) (f : Nat → Int) (w : World) (hn : n ≤ 1024) (h : Sl w a n g f) (h' : Sl w a' n g' f) :
    Calls Yba.prog 10 #[.slice a n c, .slice a' n c'] w fun e w' => e = .returned (.bool true) ∧ Below w.heap.size w w' := by
  by_cases hp : 0 < n
  · obtain ⟨rfl, r⟩ := h.row hp
    obtain ⟨rfl, r'⟩ := h'.row hp
    exact equal_rows g g' n c c' f w hn r r'
  · exact equal_none a a' n c c' w (by omega)
end Go.Proofs.Ybulkyva
