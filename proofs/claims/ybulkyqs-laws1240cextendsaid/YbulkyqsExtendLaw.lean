import Derived.Test.YbulkyqsExtend
namespace Go.Proofs.Ybulkyqs
open Go.RowKit
set_option linter.unusedVariables false


set_option maxHeartbeats 1000000 in
set_option maxRecDepth 100000 in
theorem extend_out (lo hi size x0 x1 : Int) (w : World) (h : (inB lo 1099511627776 = false) ∨ (inB lo 1099511627776 = true ∧ inB hi 1099511627776 = false) ∨ (inB lo 1099511627776 = true ∧ inB hi 1099511627776 = true ∧ inB size 1099511627776 = false) ∨ (inB lo 1099511627776 = true ∧ inB hi 1099511627776 = true ∧ inB size 1099511627776 = true ∧ inB x0 1099511627776 = false) ∨ (inB lo 1099511627776 = true ∧ inB hi 1099511627776 = true ∧ inB size 1099511627776 = true ∧ inB x0 1099511627776 = true ∧ inB x1 1099511627776 = false)) :
    Calls Yba.prog 5 #[.int .i64 lo, .int .i64 hi, .int .i64 size, .int .i64 x0, .int .i64 x1] w fun e w' => e = .returned (.bool true) ∧ Below w.heap.size w w' := by
  rcases h with h1 | ⟨h1, h2⟩ | ⟨h1, h2, h3⟩ | ⟨h1, h2, h3, h4⟩ | ⟨h1, h2, h3, h4, h5⟩
  all_goals
    go_enter Yba.func5, Yba.ntmps5
    go_wp2_with (go_at_call 9; refine (cin_calls _ 1099511627776 _ (by omega) (by omega)).mono ?_; rintro e w1 ⟨rfl, rfl⟩)
    go_ret
    exact ⟨rfl, Below.refl _ _⟩

/-- The three blocks that the law lays ahead of extend. -/
theorem ext_new (u : World) (B : Nat) (hB : B ≤ u.heap.size) (lo hi size : Int) :
    Ext B u.heap.size (u.heap.size + 1) (u.heap.size + 1 + 1) lo hi size 0 0 (((u.alloc (.cells #[.int .i64 lo, .int .i64 hi, .int .i64 size] 37)).alloc (.cells #[.int .i64 0] 2)).alloc (.cells #[.int .i64 0] 3)) := by
  have a := World.rowIs_alloc u #[.int .i64 lo, .int .i64 hi, .int .i64 size] 37 (fun i => if i = 0 then .int .i64 lo else if i = 1 then .int .i64 hi else .int .i64 size) (fun i hi => by
    match i, hi with
    | 0, _ => rfl
    | 1, _ => rfl
    | 2, _ => rfl)
  have b := World.rowIs_alloc (u.alloc (.cells #[.int .i64 lo, .int .i64 hi, .int .i64 size] 37)) #[.int .i64 0] 2 (fun _ => .int .i64 0) (fun i hi => by
    match i, hi with
    | 0, _ => rfl)
  have c := World.rowIs_alloc ((u.alloc (.cells #[.int .i64 lo, .int .i64 hi, .int .i64 size] 37)).alloc (.cells #[.int .i64 0] 2)) #[.int .i64 0] 3 (fun _ => .int .i64 0) (fun i hi => by
    match i, hi with
    | 0, _ => rfl)
  simp only [World.size_alloc] at b c
  have a' := (a.alloc (.cells #[.int .i64 0] 2)).alloc (.cells #[.int .i64 0] 3)
  have b' := b.alloc (.cells #[.int .i64 0] 3)
  exact ⟨⟨a'.cell (i := 0) (by simp), a'.cell (i := 1) (by simp), a'.cell (i := 2) (by simp)⟩, a'.frozen 0, a'.frozen 1, a'.frozen 2, b'.cell (i := 0) (by simp), b'.frozen 0, c.cell (i := 0) (by simp), c.frozen 0, hB, by omega, by omega, by omega, by omega, by omega, b'.lt, c.lt⟩

set_option maxHeartbeats 1000000 in
set_option maxRecDepth 100000 in
theorem extend_in (lo hi size x0 x1 : Int) (w : World) (h1 : inB lo 1099511627776 = true) (h2 : inB hi 1099511627776 = true) (h3 : inB size 1099511627776 = true) (h4 : inB x0 1099511627776 = true) (h5 : inB x1 1099511627776 = true) :
    Calls Yba.prog 5 #[.int .i64 lo, .int .i64 hi, .int .i64 size, .int .i64 x0, .int .i64 x1] w fun e w' => e = .returned (.bool true) ∧ Below w.heap.size w w' := by
  have b1 : In40 lo := inB_true h1
  have b2 : In40 hi := inB_true h2
  have b3 : In40 size := inB_true h3
  have b4 : In40 x0 := inB_true h4
  have b5 : In40 x1 := inB_true h5
  have W1 := win_new w lo hi size
  have hf := fills_calls w.heap.size lo hi size x0 x1
  have he := fun B E S C u => extend_calls B E S C lo hi size x0 x1 u
  generalize fl lo hi size x0 x1 = n at *
  have HF : Hid (∀ (u : World), Win u w.heap.size lo hi size → In40 lo → In40 hi → In40 size → In40 x0 → In40 x1 → Calls Yba.prog 10 #[.pointer (some ⟨w.heap.size, 0, none⟩), .int .i64 x0, .int .i64 x1] u fun e w' => e = .returned (.int .i64 n) ∧ Below u.heap.size u w') := hf
  have HE : Hid (∀ (B E S C : Nat) (u : World), Ext B E S C lo hi size 0 0 u → In40 lo → In40 hi → In40 size → In40 x0 → In40 x1 → Calls Yba.prog 11 #[.pointer (some ⟨E, 0, none⟩), .int .i64 x0, .int .i64 x1, .func (.func 12) #[] #[.pointer (some ⟨C, 0, none⟩), .pointer (some ⟨S, 0, none⟩)]] u fun e w' => e = .returned (.tuple #[]) ∧ Left S C n w' ∧ Below B u w') := he
  clear hf he
  have hmf : ∀ (fn : Fn) (first cap : Array Value) (w : World), (Instr.makeFunc fn first cap).run Yba.prog w = .ok (.func fn first cap) w := fun _ _ _ _ => rfl
  go_enter Yba.func5, Yba.ntmps5
  go_wp2_with (first
    | (go_at_call 9; refine (cin_calls _ 1099511627776 _ (by omega) (by omega)).mono ?_; rintro e w1 ⟨rfl, rfl⟩)
    | (go_at_call 10; refine (HF.out _ W1 b1 b2 b3 b4 b5).mono ?_; rintro e w2 ⟨rfl, hb2⟩; have W2 := W1.below hb2; have c0 := W2.lo; have c1 := W2.hi; have c2 := W2.size)
    | (go_at_call 11; refine (HE.out w2.heap.size _ _ _ _ (ext_new w2 w2.heap.size (Nat.le_refl _) lo hi size) b1 b2 b3 b4 b5).mono ?_; rintro e w3 ⟨rfl, hl3, hb3⟩; obtain ⟨c, hc, hc0, hc2⟩ := hl3.c; have hs := hl3.s))
  go_ret
  exact ⟨rfl, (((win_below _ _).trans (hb2.mono (by simp))).trans ((((win_below _ _).alloc (by simp) _).alloc (by simp; omega) _).mono (Nat.le_trans (by simp) hb2.size))).trans (hb3.mono (Nat.le_trans (by simp) hb2.size))⟩

theorem extend_walk (lo hi size x0 x1 : Int) (w : World) :
    Calls Yba.prog 5 #[.int .i64 lo, .int .i64 hi, .int .i64 size, .int .i64 x0, .int .i64 x1] w fun e w' => e = .returned (.bool true) ∧ Below w.heap.size w w' := by
  rcases five (inB lo 1099511627776) (inB hi 1099511627776) (inB size 1099511627776) (inB x0 1099511627776) (inB x1 1099511627776) with h | h | h | h | h | ⟨h1, h2, h3, h4, h5⟩
  · exact extend_out lo hi size x0 x1 w (Or.inl h)
  · exact extend_out lo hi size x0 x1 w (Or.inr (Or.inl h))
  · exact extend_out lo hi size x0 x1 w (Or.inr (Or.inr (Or.inl h)))
  · exact extend_out lo hi size x0 x1 w (Or.inr (Or.inr (Or.inr (Or.inl h))))
  · exact extend_out lo hi size x0 x1 w (Or.inr (Or.inr (Or.inr (Or.inr h))))
  · exact extend_in lo hi size x0 x1 w h1 h2 h3 h4 h5
end Go.Proofs.Ybulkyqs
