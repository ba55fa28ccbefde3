import Derived.Test.YbulkyvaLeaf3
namespace Go.Proofs.Ybulkyva
open Go.RowKit
set_option linter.unusedVariables false

theorem Chg.lower {B B' : Nat} {X : Nat → Prop} {W W' : World} (h : Chg B X W W') (hB : B' ≤ B) : Chg B' X W W' := ⟨h.below.mono hB, h.same⟩
theorem Marks.chg {B : Nat} {X : Nat → Prop} {W W' : World} {fa : Option Addr} {fl fc n : Nat} {Fa : Nat → Bool} (h : Marks W fa fl fc n Fa) (hc : Chg B X W W') (hx : ∀ b o, fa = some ⟨b, o, none⟩ → ¬ X b) : Marks W' fa fl fc n Fa := by
  rcases h with h | ⟨b, o, rfl, hn, hl, hq⟩
  · exact .inl h
  · exact .inr ⟨b, o, rfl, hn, Nat.lt_of_lt_of_le hl hc.size, fun i hi => (World.cell?_of_block (w := W) (hc.same b hl (hx b o rfl))).trans (hq i hi)⟩

theorem held_sl (inp st : Value) (fa : Option Addr) (fl fc n : Nat) (Fa : Nat → Bool) (a : Option Addr) (cap g : Nat) (f : Nat → Int) (w : World) (hf : fl ≤ maxLen) (hn : n ≤ 1024) (h : Marks w fa fl fc n Fa) (hr : Sl w a n g f) :
    Calls Yba.prog 18 #[.agg #[inp, .slice fa fl fc, st], .slice a n cap] w fun e w' =>
      e = .returned (.agg #[.bool (heldB f Fa 0 n), .bool (heldB f Fa 1 n)]) ∧ Below w.heap.size w w' := by
  by_cases hp : 0 < n
  · obtain ⟨rfl, r⟩ := hr.row hp
    exact held_some inp st fa fl fc n Fa g 0 cap f w hf hn h r.lt (fun i hi => by rw [Nat.zero_add]; exact r.cell hi)
  · exact held_none inp st fa fl fc Fa a n cap f w (by omega)

/-! ### CandidateSets (25), Pruned (41), Of (34) -/
set_option maxHeartbeats 1000000 in
theorem cands_calls (n f : Int) (w : World) : Calls Yba.prog 25 #[.int .i64 n, .int .i64 f] w fun e w' =>
    e = .returned (.func (.func 33) #[] #[.pointer (some ⟨w.heap.size + 1, 0, none⟩), .pointer (some ⟨w.heap.size, 0, none⟩)]) ∧ w' = (w.alloc (.cells #[.int .i64 n] 3)).alloc (.cells #[.int .i64 f] 3) := by
  go_enter Yba.func25, Yba.ntmps25
  go_wp2
  go_ret
  exact ⟨rfl, rfl⟩

set_option maxHeartbeats 1000000 in
theorem pruned_calls (n k : Int) (w : World) : Calls Yba.prog 41 #[.int .i64 n, .int .i64 k, .nilFunc] w fun e w' =>
    e = .returned (.func (.func 42) #[] #[.pointer (some ⟨w.heap.size + 1, 0, none⟩), .pointer (some ⟨w.heap.size, 0, none⟩), .pointer (some ⟨w.heap.size + 2, 0, none⟩)]) ∧
      w' = ((w.alloc (.cells #[.int .i64 n] 3)).alloc (.cells #[.int .i64 k] 3)).alloc (.cells #[.nilFunc] 41) := by
  go_enter Yba.func41, Yba.ntmps41
  go_wp2
  go_ret
  exact ⟨rfl, rfl⟩

set_option maxHeartbeats 1000000 in
theorem of_calls (n k : Int) (w : World) : Calls Yba.prog 34 #[.int .i64 n, .int .i64 k] w fun e w' =>
    e = .returned (.func (.func 42) #[] #[.pointer (some ⟨w.heap.size + 1, 0, none⟩), .pointer (some ⟨w.heap.size, 0, none⟩), .pointer (some ⟨w.heap.size + 2, 0, none⟩)]) ∧
      w' = ((w.alloc (.cells #[.int .i64 n] 3)).alloc (.cells #[.int .i64 k] 3)).alloc (.cells #[.nilFunc] 41) := by
  go_enter Yba.func34, Yba.ntmps34
  go_wp2_with (go_at_call 41; refine (pruned_calls _ _ _).mono ?_; rintro e w' ⟨rfl, rfl⟩)
  go_ret
  exact ⟨rfl, rfl⟩

/-! ### endFlood (28) -/
/-- The cells of a run that has read nothing. -/
def rcells (s0 s1 s2 st : Value) : Array Value := #[s0, s1, s2, st, .bool false, .slice none 0 0, .slice none 0 0, .slice none 0 0, .slice none 0 0, .slice none 0 0, .int .i64 0, .int .i64 0, .int .i64 0, .int .i64 0, .slice none 0 0]

set_option maxHeartbeats 2000000 in
set_option maxRecDepth 100000 in
theorem endflood_calls (br : Nat) (s0 s1 s2 st : Value) (w : World) (hr : w.heap[br]? = some (.cells (rcells s0 s1 s2 st) 57)) :
    Calls Yba.prog 28 #[.pointer (some ⟨br, 0, none⟩)] w fun e w' => (∃ z, e = .returned z) ∧ Chg br (fun b => b = br) w w' ∧ w'.heap[br]? = some (.cells (rcells s0 s1 s2 st) 57) := by
  have q5 := cells_at (i := 5) (v := .slice none 0 0) hr rfl
  have q6 := cells_at (i := 6) (v := .slice none 0 0) hr rfl
  have q7 := cells_at (i := 7) (v := .slice none 0 0) hr rfl
  have q10 := cells_at (i := 10) (v := .int .i64 0) hr rfl
  have q13 := cells_at (i := 13) (v := .int .i64 0) hr rfl
  have q14 := cells_at (i := 14) (v := .slice none 0 0) hr rfl
  have f5 := frozen_at hr 5
  have f6 := frozen_at hr 6
  have f10 := frozen_at hr 10
  have f13 := frozen_at hr 13
  go_enter Yba.func28, Yba.ntmps28
  go_wp2
  go_region
  go_wp2
  refine wp_loop_rounds 1 ?_
  rw [rounds_succ]
  go_wp2
  go_region
  go_wp2
  refine wp_loop_rounds 1 ?_
  rw [rounds_succ]
  go_wp2
  go_end0
  refine ⟨⟨_, rfl⟩, ?_, ?_⟩
  · exact (((((Chg.refl br (fun b => b = br) w).setCell (p := ⟨br, 5, none⟩) (Nat.le_refl _) (.inl rfl) _).setCell (p := ⟨br, 6, none⟩) (Nat.le_refl _) (.inl rfl) _).setCell (p := ⟨br, 10, none⟩) (Nat.le_refl _) (.inl rfl) _).setCell (p := ⟨br, 13, none⟩) (Nat.le_refl _) (.inl rfl) _).drew.drew
  · exact blk_set (blk_set (blk_set (blk_set hr 5 _) 6 _) 10 _) 13 _

end Go.Proofs.Ybulkyva
