import Derived.Test.YbulkyqsFills
namespace Go.Proofs.Ybulkyqs
open Go.RowKit
set_option linter.unusedVariables false

theorem flN_start (lo hi tl : Int) : flN lo hi tl tl = 0 := by unfold flN; omega
theorem flN_in (lo hi tl t : Int) (h : tl ≤ t) (h1 : ¬ t < lo) (h2 : ¬ hi ≤ t) : flN lo hi tl (t + 1) = flN lo hi tl t := by unfold flN; omega
theorem flN_low (lo hi tl t : Int) (hl : lo ≤ hi) (h : tl ≤ t) (h1 : t < lo) : flN lo hi tl (t + 1) = flN lo hi tl t + 1 := by unfold flN; omega
theorem flN_high (lo hi tl t : Int) (hl : lo ≤ hi) (h : tl ≤ t) (h2 : hi ≤ t) : flN lo hi tl (t + 1) = flN lo hi tl t + 1 := by unfold flN; omega
theorem flN_end (lo hi tl th t : Int) (h : ¬ t < th) (h1 : tl ≤ t) (h2 : t ≤ th ∨ t = tl) : flN lo hi tl t = flN lo hi tl th := by unfold flN; omega
theorem flN_range (lo hi tl t : Int) (h : tl ≤ t) (h1 : -4398046511104 ≤ tl) (h2 : t ≤ 4398046511104) : 0 ≤ flN lo hi tl t ∧ flN lo hi tl t ≤ 17592186044416 := by unfold flN; omega

theorem win_new (w : World) (lo hi size : Int) : Win (w.alloc (.cells #[.int .i64 lo, .int .i64 hi, .int .i64 size] 37)) w.heap.size lo hi size :=
  ⟨by rw [World.cell?_alloc_at _ _ _ _ rfl]; rfl, by rw [World.cell?_alloc_at _ _ _ _ rfl]; rfl, by rw [World.cell?_alloc_at _ _ _ _ rfl]; rfl⟩

/-- The first of the five that is out of its bounds, or none. -/
theorem five (p q r s t : Bool) : (p = false) ∨ (p = true ∧ q = false) ∨ (p = true ∧ q = true ∧ r = false) ∨ (p = true ∧ q = true ∧ r = true ∧ s = false) ∨ (p = true ∧ q = true ∧ r = true ∧ s = true ∧ t = false) ∨ (p = true ∧ q = true ∧ r = true ∧ s = true ∧ t = true) := by
  cases p <;> cases q <;> cases r <;> cases s <;> cases t <;> simp

set_option maxHeartbeats 1000000 in
set_option maxRecDepth 100000 in
theorem count_out (lo hi size x0 x1 : Int) (w : World) (h : (inB lo 2048 = false) ∨ (inB lo 2048 = true ∧ inB hi 2048 = false) ∨ (inB lo 2048 = true ∧ inB hi 2048 = true ∧ inB size 2048 = false) ∨ (inB lo 2048 = true ∧ inB hi 2048 = true ∧ inB size 2048 = true ∧ inB x0 2048 = false) ∨ (inB lo 2048 = true ∧ inB hi 2048 = true ∧ inB size 2048 = true ∧ inB x0 2048 = true ∧ inB x1 2048 = false)) :
    Calls Yba.prog 6 #[.int .i64 lo, .int .i64 hi, .int .i64 size, .int .i64 x0, .int .i64 x1] w fun e w' => e = .returned (.bool true) ∧ Below w.heap.size w w' := by
  rcases h with h1 | ⟨h1, h2⟩ | ⟨h1, h2, h3⟩ | ⟨h1, h2, h3, h4⟩ | ⟨h1, h2, h3, h4, h5⟩
  all_goals
    go_enter Yba.func6, Yba.ntmps6
    go_wp2_with (go_at_call 9; refine (cin_calls _ 2048 _ (by omega) (by omega)).mono ?_; rintro e w1 ⟨rfl, rfl⟩)
    go_ret
    exact ⟨rfl, Below.refl _ _⟩

set_option maxHeartbeats 1000000 in
set_option maxRecDepth 100000 in
theorem count_in (lo hi size x0 x1 : Int) (w : World) (h1 : inB lo 2048 = true) (h2 : inB hi 2048 = true) (h3 : inB size 2048 = true) (h4 : inB x0 2048 = true) (h5 : inB x1 2048 = true) :
    Calls Yba.prog 6 #[.int .i64 lo, .int .i64 hi, .int .i64 size, .int .i64 x0, .int .i64 x1] w fun e w' => e = .returned (.bool true) ∧ Below w.heap.size w w' := by
  by_cases hl : hi < lo
  · go_enter Yba.func6, Yba.ntmps6
    go_wp2_with (go_at_call 9; refine (cin_calls _ 2048 _ (by omega) (by omega)).mono ?_; rintro e w1 ⟨rfl, rfl⟩)
    go_ret
    exact ⟨rfl, Below.refl _ _⟩
  · have b1 : In40 lo := by have := inB_true h1; unfold In40; omega
    have b2 : In40 hi := by have := inB_true h2; unfold In40; omega
    have b3 : In40 size := by have := inB_true h3; unfold In40; omega
    have b4 : In40 x0 := by have := inB_true h4; unfold In40; omega
    have b5 : In40 x1 := by have := inB_true h5; unfold In40; omega
    have W1 := win_new w lo hi size
    cases hh : holdB lo hi x0 x1
    · have e : fl lo hi size x0 x1 = flN lo hi (mvLo lo hi size x0 x1) (mvHi lo hi size x0 x1) := by simp [fl, hh]
      have hno := holdB_false hh
      obtain ⟨r1, r2, r3, r4⟩ := mv_range b1 b2 b3 b4 b5
      have hf := fills_calls w.heap.size lo hi size x0 x1
      rw [e] at hf
      have hm := moved_calls w.heap.size lo hi size x0 x1
      generalize mvLo lo hi size x0 x1 = tl at *
      generalize mvHi lo hi size x0 x1 = th at *
      have HF : Hid (∀ (u : World), Win u w.heap.size lo hi size → In40 lo → In40 hi → In40 size → In40 x0 → In40 x1 → Calls Yba.prog 10 #[.pointer (some ⟨w.heap.size, 0, none⟩), .int .i64 x0, .int .i64 x1] u fun e w' => e = .returned (.int .i64 (flN lo hi tl th)) ∧ Below u.heap.size u w') := hf
      have HM : Hid (∀ (u : World), Win u w.heap.size lo hi size → In40 lo → In40 hi → In40 size → In40 x0 → In40 x1 → Calls Yba.prog 13 #[.pointer (some ⟨w.heap.size, 0, none⟩), .int .i64 x0, .int .i64 x1] u fun e w' => e = .returned (.agg #[.int .i64 tl, .int .i64 th, .int .i64 size]) ∧ Below u.heap.size u w') := hm
      have HH : Hid (holdB lo hi x0 x1 = false) := hh
      clear hf hm e hh
      have hcases : ¬ lo ≤ x0 ∨ (lo ≤ x0 ∧ ¬ x1 < hi) := by omega
      clear hno
      rcases hcases with hc | ⟨hc, hc'⟩
      all_goals
        go_enter Yba.func6, Yba.ntmps6
        go_wp2_with (first
          | (go_at_call 9; refine (cin_calls _ 2048 _ (by omega) (by omega)).mono ?_; rintro e w1 ⟨rfl, rfl⟩)
          | (go_at_call 10; refine (HF.out _ W1 b1 b2 b3 b4 b5).mono ?_; rintro e w2 ⟨rfl, hb2⟩; have W2 := W1.below hb2)
          | (go_at_call 13; refine (HM.out _ W2 b1 b2 b3 b4 b5).mono ?_; rintro e w3 ⟨rfl, hb3⟩))
        have hfin : Below w.heap.size w (w3.alloc (Obj.cells #[Value.int IntKind.i64 tl, Value.int IntKind.i64 th, Value.int IntKind.i64 size] 37)) :=
          (((win_below _ _).trans (hb2.mono (by simp))).trans (hb3.mono (Nat.le_trans (by simp) hb2.size))).alloc (Nat.le_trans (Nat.le_trans (by simp) hb2.size) hb3.size) _
        have W4 := win_new w3 tl th size
        have d1 := W4.hi
        clear HF HM hb2 hb3 W2 W1 b1 b2 b3 b4 b5 h1 h2 h3 h4 h5 W4
        go_loop [14, 15] (fun c x => ∃ t : Int, tl ≤ t ∧ (t ≤ th ∨ t = tl) ∧ x = .int .i64 t ∧ c = .int .i64 (flN lo hi tl t)) (fun _ x => (th - intOf x).toNat)
        case atStart => exact ⟨tl, Int.le_refl _, Or.inr rfl, rfl, by rw [flN_start]⟩
        case round =>
          obtain ⟨t, ht1, ht2, rfl, rfl⟩ := hrel
          by_cases hlt : t < th
          · have hr := flN_range lo hi tl t ht1 r1 (by omega)
            obtain ⟨hr1, hr2⟩ := hr
            by_cases k1 : t < lo
            · have HS : Hid (flN lo hi tl (t + 1) = flN lo hi tl t + 1) := flN_low lo hi tl t (by omega) ht1 k1
              go_wp2
              go_round
              case rel => exact ⟨t + 1, by omega, by omega, by go_num, by rw [HS.out]⟩
              case measure => simp [intOf]; omega
            · by_cases k2 : hi ≤ t
              · have HS : Hid (flN lo hi tl (t + 1) = flN lo hi tl t + 1) := flN_high lo hi tl t (by omega) ht1 k2
                go_wp2
                go_round
                case rel => exact ⟨t + 1, by omega, by omega, by go_num, by rw [HS.out]⟩
                case measure => simp [intOf]; omega
              · have HS : Hid (flN lo hi tl (t + 1) = flN lo hi tl t) := flN_in lo hi tl t ht1 k1 k2
                go_wp2
                go_round
                case rel => exact ⟨t + 1, by omega, by omega, by go_num, by rw [HS.out]⟩
                case measure => simp [intOf]; omega
          · have HS : (flN lo hi tl th == flN lo hi tl t) = true := by rw [flN_end lo hi tl th t hlt ht1 ht2]; simp
            go_wp2
            go_ret
            exact ⟨rfl, hfin⟩
    · have e : fl lo hi size x0 x1 = 0 := by simp [fl, hh]
      obtain ⟨g1, g2⟩ := holdB_true hh
      have hf := fills_calls w.heap.size lo hi size x0 x1
      rw [e] at hf
      have HF : Hid (∀ (u : World), Win u w.heap.size lo hi size → In40 lo → In40 hi → In40 size → In40 x0 → In40 x1 → Calls Yba.prog 10 #[.pointer (some ⟨w.heap.size, 0, none⟩), .int .i64 x0, .int .i64 x1] u fun e w' => e = .returned (.int .i64 0) ∧ Below u.heap.size u w') := hf
      clear hf e hh
      go_enter Yba.func6, Yba.ntmps6
      go_wp2_with (first
        | (go_at_call 9; refine (cin_calls _ 2048 _ (by omega) (by omega)).mono ?_; rintro e w1 ⟨rfl, rfl⟩)
        | (go_at_call 10; refine (HF.out _ W1 b1 b2 b3 b4 b5).mono ?_; rintro e w2 ⟨rfl, hb2⟩))
      go_ret
      exact ⟨rfl, (win_below _ _).trans (hb2.mono (by simp))⟩

theorem count_walk (lo hi size x0 x1 : Int) (w : World) :
    Calls Yba.prog 6 #[.int .i64 lo, .int .i64 hi, .int .i64 size, .int .i64 x0, .int .i64 x1] w fun e w' => e = .returned (.bool true) ∧ Below w.heap.size w w' := by
  rcases five (inB lo 2048) (inB hi 2048) (inB size 2048) (inB x0 2048) (inB x1 2048) with h | h | h | h | h | ⟨h1, h2, h3, h4, h5⟩
  · exact count_out lo hi size x0 x1 w (Or.inl h)
  · exact count_out lo hi size x0 x1 w (Or.inr (Or.inl h))
  · exact count_out lo hi size x0 x1 w (Or.inr (Or.inr (Or.inl h)))
  · exact count_out lo hi size x0 x1 w (Or.inr (Or.inr (Or.inr (Or.inl h))))
  · exact count_out lo hi size x0 x1 w (Or.inr (Or.inr (Or.inr (Or.inr h))))
  · exact count_in lo hi size x0 x1 w h1 h2 h3 h4 h5
end Go.Proofs.Ybulkyqs
