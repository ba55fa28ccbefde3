import Derived.Test.YbulkyqsCount
namespace Go.Proofs.Ybulkyqs
open Go.RowKit
set_option linter.unusedVariables false

/-- The blocks of extend's run: the window in block E, the sum in S, the count in C; all from B on. -/
structure Ext (B E S C : Nat) (lo hi size s c : Int) (w : World) : Prop where
  win : Win w E lo hi size
  f0 : w.frozen? ⟨E, 0, none⟩ = false
  f1 : w.frozen? ⟨E, 1, none⟩ = false
  f2 : w.frozen? ⟨E, 2, none⟩ = false
  s : w.cell? ⟨S, 0, none⟩ = some (.int .i64 s)
  fs : w.frozen? ⟨S, 0, none⟩ = false
  c : w.cell? ⟨C, 0, none⟩ = some (.int .i64 c)
  fc : w.frozen? ⟨C, 0, none⟩ = false
  hE : B ≤ E
  hS : B ≤ S
  hC : B ≤ C
  es : E ≠ S
  ec : E ≠ C
  sc : S ≠ C
  lS : S < w.heap.size
  lC : C < w.heap.size

theorem Ext.below {B E S C : Nat} {lo hi size s c : Int} {w w' : World} (h : Ext B E S C lo hi size s c w) (hb : Below w.heap.size w w') : Ext B E S C lo hi size s c w' :=
  have z := h.win.lt
  have z1 := h.lS
  have z2 := h.lC
  ⟨h.win.below hb, (hb.frozen (p := ⟨E, 0, none⟩) z).trans h.f0, (hb.frozen (p := ⟨E, 1, none⟩) z).trans h.f1, (hb.frozen (p := ⟨E, 2, none⟩) z).trans h.f2, (hb.cell (p := ⟨S, 0, none⟩) z1).trans h.s, (hb.frozen (p := ⟨S, 0, none⟩) z1).trans h.fs,
    (hb.cell (p := ⟨C, 0, none⟩) z2).trans h.c, (hb.frozen (p := ⟨C, 0, none⟩) z2).trans h.fc, h.hE, h.hS, h.hC, h.es, h.ec, h.sc, Nat.lt_of_lt_of_le z1 hb.size, Nat.lt_of_lt_of_le z2 hb.size⟩

theorem cell_other {w : World} {p a : Addr} {v u : Value} (h : p.block ≠ a.block) (hc : w.cell? p = some v) : (w.setCell a u).cell? p = some v := (World.cell?_of_block (w := w) (Below.heap_setCell _ _ _ _ h)).trans hc

theorem Ext.bump {B E S C : Nat} {lo hi size s c : Int} {w : World} (h : Ext B E S C lo hi size s c w) (s' c' : Int) : Ext B E S C lo hi size s' c' ((w.setCell ⟨C, 0, none⟩ (.int .i64 c')).setCell ⟨S, 0, none⟩ (.int .i64 s')) := by
  have e1 := h.es
  have e2 := h.ec
  have e3 := h.sc
  refine ⟨⟨cell_other e1 (cell_other e2 h.win.lo), cell_other e1 (cell_other e2 h.win.hi), cell_other e1 (cell_other e2 h.win.size)⟩, ?_, ?_, ?_, ?_, ?_, ?_, ?_, h.hE, h.hS, h.hC, e1, e2, e3, ?_, ?_⟩
  · rw [World.frozen?_setCell, World.frozen?_setCell]; exact h.f0
  · rw [World.frozen?_setCell, World.frozen?_setCell]; exact h.f1
  · rw [World.frozen?_setCell, World.frozen?_setCell]; exact h.f2
  · have := cell_other (a := ⟨C, 0, none⟩) (u := .int .i64 c') e3 h.s
    go_simp
  · rw [World.frozen?_setCell, World.frozen?_setCell]; exact h.fs
  · refine cell_other (fun e => e3 e.symm) ?_
    have := h.c
    go_simp
  · rw [World.frozen?_setCell, World.frozen?_setCell]; exact h.fc
  · simpa [World.setCell] using h.lS
  · simpa [World.setCell] using h.lC

/-- All cells but those of blocks S and C are as they were. -/
def Rest (S C : Nat) (w w' : World) : Prop := ∀ p : Addr, p.block ≠ S → p.block ≠ C → w'.cell? p = w.cell? p

set_option maxHeartbeats 1000000 in
theorem fill_calls (B E S C : Nat) (lo hi size s c a b : Int) (w : World) (h : Ext B E S C lo hi size s c w) (h1 : 0 ≤ c) (h2 : c ≤ 10) (h3 : -70368744177664 ≤ s) (h4 : s ≤ 70368744177664) (h5 : -70368744177664 ≤ b - a) (h6 : b - a ≤ 70368744177664) :
    Calls Yba.prog 12 #[.int .i64 a, .int .i64 b, .pointer (some ⟨C, 0, none⟩), .pointer (some ⟨S, 0, none⟩)] w fun e w' =>
      e = .returned (.tuple #[]) ∧ Ext B E S C lo hi size (s + (b - a)) (c + 1) w' ∧ Below B w w' ∧ Rest S C w w' := by
  have q1 := h.s
  have q2 := h.c
  have q3 := h.fs
  have q4 := h.fc
  have n1 : ¬ S = C := h.sc
  have n2 : ¬ C = S := fun e => h.sc e.symm
  go_enter Yba.func12, Yba.ntmps12
  go_wp2
  go_end0
  exact ⟨rfl, h.bump _ _, ((Below.refl _ _).setCell (p := ⟨C, 0, none⟩) h.hC _).setCell (p := ⟨S, 0, none⟩) h.hS _, fun p n1 n2 => (World.cell?_of_block (Below.heap_setCell _ _ _ _ n1)).trans (World.cell?_of_block (Below.heap_setCell _ _ _ _ n2))⟩

/-- What is left of the sum and the count. -/
structure Left (S C : Nat) (s : Int) (w : World) : Prop where
  s : w.cell? ⟨S, 0, none⟩ = some (.int .i64 s)
  c : ∃ c : Int, w.cell? ⟨C, 0, none⟩ = some (.int .i64 c) ∧ 0 ≤ c ∧ c ≤ 2

theorem Ext.left {B E S C : Nat} {lo hi size s c : Int} {w : World} (h : Ext B E S C lo hi size s c w) (h1 : 0 ≤ c) (h2 : c ≤ 2) (s' : Int) (hs : s' = s) (x y z : Value) :
    Left S C s' (((w.setCell ⟨E, 0, none⟩ x).setCell ⟨E, 1, none⟩ y).setCell ⟨E, 2, none⟩ z) := by
  subst hs
  have e1 : S ≠ E := fun e => h.es e.symm
  have e2 : C ≠ E := fun e => h.ec e.symm
  exact ⟨cell_other e1 (cell_other e1 (cell_other e1 h.s)), c, cell_other e2 (cell_other e2 (cell_other e2 h.c)), h1, h2⟩

theorem Ext.drewN {B E S C : Nat} {lo hi size s c : Int} {w : World} (h : Ext B E S C lo hi size s c w) (n : Nat) : Ext B E S C lo hi size s c (w.drewN n) := h.below ⟨rfl, rfl, rfl, Nat.le_refl _, fun _ _ => rfl⟩

set_option maxHeartbeats 2000000 in
set_option maxRecDepth 100000 in
theorem extend_no (B E S C : Nat) (lo hi size x0 x1 : Int) (w : World) (h : Ext B E S C lo hi size 0 0 w) (b1 : In40 lo) (b2 : In40 hi) (b3 : In40 size) (b4 : In40 x0) (b5 : In40 x1) (hh : holdB lo hi x0 x1 = false) :
    Calls Yba.prog 11 #[.pointer (some ⟨E, 0, none⟩), .int .i64 x0, .int .i64 x1, .func (.func 12) #[] #[.pointer (some ⟨C, 0, none⟩), .pointer (some ⟨S, 0, none⟩)]] w fun e w' =>
      e = .returned (.tuple #[]) ∧ Left S C (flN lo hi (mvLo lo hi size x0 x1) (mvHi lo hi size x0 x1)) w' ∧ Below B w w' := by
  obtain ⟨r1, r2, r3, r4⟩ := mv_range b1 b2 b3 b4 b5
  have hm := moved_calls E lo hi size x0 x1
  generalize mvLo lo hi size x0 x1 = tl at *
  generalize mvHi lo hi size x0 x1 = th at *
  have HM : Hid (∀ (u : World), Win u E lo hi size → In40 lo → In40 hi → In40 size → In40 x0 → In40 x1 → Calls Yba.prog 13 #[.pointer (some ⟨E, 0, none⟩), .int .i64 x0, .int .i64 x1] u fun e w' => e = .returned (.agg #[.int .i64 tl, .int .i64 th, .int .i64 size]) ∧ Below u.heap.size u w') := hm
  clear hm
  have hlo1 := b1.1
  have hlo2 := b1.2
  have hhi1 := b2.1
  have hhi2 := b2.2
  have hB0 : B ≤ w.heap.size := Nat.le_of_lt (Nat.lt_of_le_of_lt h.hS h.lS)
  have HFL : Hid (flN lo hi tl th = (if tl < min th lo then min th lo - tl else 0) + (if max tl hi < th then th - max tl hi else 0)) := by
    show flN lo hi tl th = _
    unfold flN
    split <;> split <;> omega
  by_cases k1 : tl < min th lo
  · by_cases k2 : max tl hi < th
    · go_enter Yba.func11, Yba.ntmps11
      go_wp2_with (first
        | (go_at_call 16; refine (holds_calls E lo hi size x0 x1 _ h.win).mono ?_; rintro e w1 ⟨rfl, rfl⟩)
        | (go_at_call 13; refine (HM.out _ h.win b1 b2 b3 b4 b5).mono ?_; rintro e w2 ⟨rfl, hb2⟩; have H2 := h.below hb2; have c0 := H2.win.lo; have c1 := H2.win.hi; have hz := H2.win.lt))
      have H3 := H2.below (win_below w2 (Obj.cells #[Value.int IntKind.i64 tl, Value.int IntKind.i64 th, Value.int IntKind.i64 size] 37))
      have W3 := win_new w2 tl th size
      have hB3 : Below B w (w2.alloc (Obj.cells #[Value.int IntKind.i64 tl, Value.int IntKind.i64 th, Value.int IntKind.i64 size] 37)) := (hb2.mono hB0).alloc (Nat.le_trans hB0 hb2.size) _
      have nS : w2.heap.size ≠ S := by have := H2.lS; omega
      have nC : w2.heap.size ≠ C := by have := H2.lC; omega
      have nE : w2.heap.size ≠ E := by have := H2.win.lt; omega
      go_quiet (fail)
      go_wp2_with fail
      refine (fill_calls B E S C lo hi size 0 0 tl (min th lo) _ (H3.drewN _) (by omega) (by omega) (by omega) (by omega) (by omega) (by omega)).mono ?_
      rintro e w4 ⟨rfl, H4, hb4, hr4⟩
      have t0 : w4.cell? ⟨w2.heap.size, 0, none⟩ = some (.int .i64 tl) := (hr4 ⟨w2.heap.size, 0, none⟩ nS nC).trans W3.lo
      have t1 : w4.cell? ⟨w2.heap.size, 1, none⟩ = some (.int .i64 th) := (hr4 ⟨w2.heap.size, 1, none⟩ nS nC).trans W3.hi
      have t2 : w4.cell? ⟨w2.heap.size, 2, none⟩ = some (.int .i64 size) := (hr4 ⟨w2.heap.size, 2, none⟩ nS nC).trans W3.size
      have d0 := H4.win.lo
      have d1 := H4.win.hi
      have d2 := H4.win.size
      have g0 := H4.f0
      have g1 := H4.f1
      have g2 := H4.f2
      have hB4 := (below_drewN hB3 nq).trans hb4
      go_wp2
      go_quiet (fail)
      go_wp2_with fail
      refine (fill_calls B E S C lo hi size (0 + (min th lo - tl)) (0 + 1) (max tl hi) th _ (H4.drewN _) (by omega) (by omega) (by omega) (by omega) (by omega) (by omega)).mono ?_
      rintro e w5 ⟨rfl, H5, hb5, hr5⟩
      have u0 : w5.cell? ⟨w2.heap.size, 0, none⟩ = some (.int .i64 tl) := (hr5 ⟨w2.heap.size, 0, none⟩ nS nC).trans t0
      have u1 : w5.cell? ⟨w2.heap.size, 1, none⟩ = some (.int .i64 th) := (hr5 ⟨w2.heap.size, 1, none⟩ nS nC).trans t1
      have u2 : w5.cell? ⟨w2.heap.size, 2, none⟩ = some (.int .i64 size) := (hr5 ⟨w2.heap.size, 2, none⟩ nS nC).trans t2
      have p0 := H5.win.lo
      have p1 := H5.win.hi
      have p2 := H5.win.size
      have v0 := H5.f0
      have v1 := H5.f1
      have v2 := H5.f2
      have hB5 := (below_drewN hB4 _).trans hb5
      go_wp2
      go_end0
      refine ⟨rfl, H5.left (by omega) (by omega) _ (by rw [HFL.out, if_pos (by omega), if_pos (by omega)]; omega) _ _ _, ?_⟩
      exact ((hB5.setCell (p := ⟨E, 0, none⟩) h.hE _).setCell (p := ⟨E, 1, none⟩) h.hE _).setCell (p := ⟨E, 2, none⟩) h.hE _
    · go_enter Yba.func11, Yba.ntmps11
      go_wp2_with (first
        | (go_at_call 16; refine (holds_calls E lo hi size x0 x1 _ h.win).mono ?_; rintro e w1 ⟨rfl, rfl⟩)
        | (go_at_call 13; refine (HM.out _ h.win b1 b2 b3 b4 b5).mono ?_; rintro e w2 ⟨rfl, hb2⟩; have H2 := h.below hb2; have c0 := H2.win.lo; have c1 := H2.win.hi; have hz := H2.win.lt))
      have H3 := H2.below (win_below w2 (Obj.cells #[Value.int IntKind.i64 tl, Value.int IntKind.i64 th, Value.int IntKind.i64 size] 37))
      have W3 := win_new w2 tl th size
      have hB3 : Below B w (w2.alloc (Obj.cells #[Value.int IntKind.i64 tl, Value.int IntKind.i64 th, Value.int IntKind.i64 size] 37)) := (hb2.mono hB0).alloc (Nat.le_trans hB0 hb2.size) _
      have nS : w2.heap.size ≠ S := by have := H2.lS; omega
      have nC : w2.heap.size ≠ C := by have := H2.lC; omega
      have nE : w2.heap.size ≠ E := by have := H2.win.lt; omega
      go_quiet (fail)
      go_wp2_with fail
      refine (fill_calls B E S C lo hi size 0 0 tl (min th lo) _ (H3.drewN _) (by omega) (by omega) (by omega) (by omega) (by omega) (by omega)).mono ?_
      rintro e w4 ⟨rfl, H4, hb4, hr4⟩
      have t0 : w4.cell? ⟨w2.heap.size, 0, none⟩ = some (.int .i64 tl) := (hr4 ⟨w2.heap.size, 0, none⟩ nS nC).trans W3.lo
      have t1 : w4.cell? ⟨w2.heap.size, 1, none⟩ = some (.int .i64 th) := (hr4 ⟨w2.heap.size, 1, none⟩ nS nC).trans W3.hi
      have t2 : w4.cell? ⟨w2.heap.size, 2, none⟩ = some (.int .i64 size) := (hr4 ⟨w2.heap.size, 2, none⟩ nS nC).trans W3.size
      have d0 := H4.win.lo
      have d1 := H4.win.hi
      have d2 := H4.win.size
      have g0 := H4.f0
      have g1 := H4.f1
      have g2 := H4.f2
      have hB4 := (below_drewN hB3 nq).trans hb4
      go_wp2
      go_quiet (fail)
      go_wp2
      go_end0
      refine ⟨rfl, (H4.drewN _).left (by omega) (by omega) _ (by rw [HFL.out, if_pos (by omega), if_neg (by omega)]; omega) _ _ _, ?_⟩
      exact (((below_drewN hB4 _).setCell (p := ⟨E, 0, none⟩) h.hE _).setCell (p := ⟨E, 1, none⟩) h.hE _).setCell (p := ⟨E, 2, none⟩) h.hE _
  · by_cases k2 : max tl hi < th
    · go_enter Yba.func11, Yba.ntmps11
      go_wp2_with (first
        | (go_at_call 16; refine (holds_calls E lo hi size x0 x1 _ h.win).mono ?_; rintro e w1 ⟨rfl, rfl⟩)
        | (go_at_call 13; refine (HM.out _ h.win b1 b2 b3 b4 b5).mono ?_; rintro e w2 ⟨rfl, hb2⟩; have H2 := h.below hb2; have c0 := H2.win.lo; have c1 := H2.win.hi; have hz := H2.win.lt))
      have H3 := H2.below (win_below w2 (Obj.cells #[Value.int IntKind.i64 tl, Value.int IntKind.i64 th, Value.int IntKind.i64 size] 37))
      have W3 := win_new w2 tl th size
      have hB3 : Below B w (w2.alloc (Obj.cells #[Value.int IntKind.i64 tl, Value.int IntKind.i64 th, Value.int IntKind.i64 size] 37)) := (hb2.mono hB0).alloc (Nat.le_trans hB0 hb2.size) _
      have nS : w2.heap.size ≠ S := by have := H2.lS; omega
      have nC : w2.heap.size ≠ C := by have := H2.lC; omega
      have nE : w2.heap.size ≠ E := by have := H2.win.lt; omega
      have e0 := H3.win.lo
      have e1 := H3.win.hi
      have e2 := H3.win.size
      have g0 := H3.f0
      have g1 := H3.f1
      have g2 := H3.f2
      have y0 := W3.lo
      have y1 := W3.hi
      have y2 := W3.size
      go_quiet (fail)
      go_wp2
      go_quiet (fail)
      go_wp2_with fail
      refine (fill_calls B E S C lo hi size 0 0 (max tl hi) th _ (H3.drewN _) (by omega) (by omega) (by omega) (by omega) (by omega) (by omega)).mono ?_
      rintro e w5 ⟨rfl, H5, hb5, hr5⟩
      have u0 : w5.cell? ⟨w2.heap.size, 0, none⟩ = some (.int .i64 tl) := (hr5 ⟨w2.heap.size, 0, none⟩ nS nC).trans W3.lo
      have u1 : w5.cell? ⟨w2.heap.size, 1, none⟩ = some (.int .i64 th) := (hr5 ⟨w2.heap.size, 1, none⟩ nS nC).trans W3.hi
      have u2 : w5.cell? ⟨w2.heap.size, 2, none⟩ = some (.int .i64 size) := (hr5 ⟨w2.heap.size, 2, none⟩ nS nC).trans W3.size
      have p0 := H5.win.lo
      have p1 := H5.win.hi
      have p2 := H5.win.size
      have v0 := H5.f0
      have v1 := H5.f1
      have v2 := H5.f2
      have hB5 := (below_drewN hB3 _).trans hb5
      go_wp2
      go_end0
      refine ⟨rfl, H5.left (by omega) (by omega) _ (by rw [HFL.out, if_neg (by omega), if_pos (by omega)]) _ _ _, ?_⟩
      exact ((hB5.setCell (p := ⟨E, 0, none⟩) h.hE _).setCell (p := ⟨E, 1, none⟩) h.hE _).setCell (p := ⟨E, 2, none⟩) h.hE _
    · go_enter Yba.func11, Yba.ntmps11
      go_wp2_with (first
        | (go_at_call 16; refine (holds_calls E lo hi size x0 x1 _ h.win).mono ?_; rintro e w1 ⟨rfl, rfl⟩)
        | (go_at_call 13; refine (HM.out _ h.win b1 b2 b3 b4 b5).mono ?_; rintro e w2 ⟨rfl, hb2⟩; have H2 := h.below hb2; have c0 := H2.win.lo; have c1 := H2.win.hi; have hz := H2.win.lt))
      have H3 := H2.below (win_below w2 (Obj.cells #[Value.int IntKind.i64 tl, Value.int IntKind.i64 th, Value.int IntKind.i64 size] 37))
      have W3 := win_new w2 tl th size
      have hB3 : Below B w (w2.alloc (Obj.cells #[Value.int IntKind.i64 tl, Value.int IntKind.i64 th, Value.int IntKind.i64 size] 37)) := (hb2.mono hB0).alloc (Nat.le_trans hB0 hb2.size) _
      have nS : w2.heap.size ≠ S := by have := H2.lS; omega
      have nC : w2.heap.size ≠ C := by have := H2.lC; omega
      have nE : w2.heap.size ≠ E := by have := H2.win.lt; omega
      have e0 := H3.win.lo
      have e1 := H3.win.hi
      have e2 := H3.win.size
      have g0 := H3.f0
      have g1 := H3.f1
      have g2 := H3.f2
      have y0 := W3.lo
      have y1 := W3.hi
      have y2 := W3.size
      go_quiet (fail)
      go_wp2
      go_quiet (fail)
      go_wp2
      go_end0
      refine ⟨rfl, (H3.drewN _).left (by omega) (by omega) _ (by rw [HFL.out, if_neg (by omega), if_neg (by omega)]; omega) _ _ _, ?_⟩
      exact (((below_drewN hB3 _).setCell (p := ⟨E, 0, none⟩) h.hE _).setCell (p := ⟨E, 1, none⟩) h.hE _).setCell (p := ⟨E, 2, none⟩) h.hE _

set_option maxHeartbeats 1000000 in
theorem extend_yes (B E S C : Nat) (lo hi size x0 x1 : Int) (w : World) (h : Ext B E S C lo hi size 0 0 w) (hh : holdB lo hi x0 x1 = true) :
    Calls Yba.prog 11 #[.pointer (some ⟨E, 0, none⟩), .int .i64 x0, .int .i64 x1, .func (.func 12) #[] #[.pointer (some ⟨C, 0, none⟩), .pointer (some ⟨S, 0, none⟩)]] w fun e w' =>
      e = .returned (.tuple #[]) ∧ Left S C 0 w' ∧ Below B w w' := by
  go_enter Yba.func11, Yba.ntmps11
  go_wp2_with (go_at_call 16; refine (holds_calls E lo hi size x0 x1 _ h.win).mono ?_; rintro e w1 ⟨rfl, rfl⟩)
  exact bodyPost_ret (v := .tuple #[]) (by simp [results, Yba.results11, go_sem]) rfl ⟨rfl, ⟨h.s, 0, h.c, by omega, by omega⟩, Below.refl _ _⟩

theorem extend_calls (B E S C : Nat) (lo hi size x0 x1 : Int) (w : World) (h : Ext B E S C lo hi size 0 0 w) (b1 : In40 lo) (b2 : In40 hi) (b3 : In40 size) (b4 : In40 x0) (b5 : In40 x1) :
    Calls Yba.prog 11 #[.pointer (some ⟨E, 0, none⟩), .int .i64 x0, .int .i64 x1, .func (.func 12) #[] #[.pointer (some ⟨C, 0, none⟩), .pointer (some ⟨S, 0, none⟩)]] w fun e w' =>
      e = .returned (.tuple #[]) ∧ Left S C (fl lo hi size x0 x1) w' ∧ Below B w w' := by
  cases hh : holdB lo hi x0 x1
  · have e : fl lo hi size x0 x1 = flN lo hi (mvLo lo hi size x0 x1) (mvHi lo hi size x0 x1) := by simp [fl, hh]
    rw [e]
    exact extend_no B E S C lo hi size x0 x1 w h b1 b2 b3 b4 b5 hh
  · have e : fl lo hi size x0 x1 = 0 := by simp [fl, hh]
    rw [e]
    exact extend_yes B E S C lo hi size x0 x1 w h hh
end Go.Proofs.Ybulkyqs
