import Derived.Test.YbulkyvaLeaf6
namespace Go.Proofs.Ybulkyva
open Go.RowKit
set_option linter.unusedVariables false

/-- An outcome. -/
abbrev outv (d : Value) (a v t b1 b2 : Bool) : Array Value := #[d, .bool a, .bool v, .bool t, .bool b1, .bool b2, .int .i64 0, .int .i64 0, .int .i64 0]

theorem drew_blk {w : World} {b : Nat} {o : Obj} (h : w.heap[b]? = some o) : w.drew.heap[b]? = some o := h
/-- An outcome that says nothing yet. -/
abbrev Z61 : Obj := .cells #[.slice none 0 0, .bool false, .bool false, .bool false, .bool false, .bool false, .int .i64 0, .int .i64 0, .int .i64 0] 61

set_option maxHeartbeats 4000000 in
set_option maxRecDepth 100000 in
theorem routcome_aux (br gv : Nat) (ia da fa : Option Addr) (ic dc fl fc n gd : Nat) (st rs : Value) (z : Int) (b1 b2 ag va te : Bool) (D : Nat → Int) (w : World) (hgd : gd < w.heap.size)
    (hr : w.heap[br]? = some (.cells (rcells (.slice ia n ic) (.slice fa fl fc) st rs) 57)) (hv : w.heap[gv]? = some (.cells #[.slice ia n ic, .slice fa fl fc, st, .int .i64 z, .bool b1, .bool b2] 88)) (nbr : br ≠ gd) (ngv : gv ≠ gd)
    (h36 : Calls Yba.prog 36 #[.agg #[.slice ia n ic, .slice fa fl fc, st], .slice da n dc] (w.alloc Z61) fun e w' =>
      e = .returned (.agg (outv (.slice da n dc) ag va te false false)) ∧ Chg gd (fun b => b = gd) (w.alloc Z61) w' ∧ Sl w' da n gd D) (hdl : 0 < n → gd < w.heap.size) :
    Calls Yba.prog 29 #[.pointer (some ⟨br, 0, none⟩), .slice da n dc, .pointer (some ⟨gv, 0, none⟩)] w fun e w' =>
      e = .returned (.agg (outv (.slice da n dc) ag va te b1 b2)) ∧ Chg gd (fun b => b = gd) w w' ∧ Sl w' da n gd D := by
  have lbr := blk_lt hr
  have lgv := blk_lt hv
  have n1 : ¬ br = w.heap.size := by omega
  have e0 := fun o => cells_at (i := 0) (v := .slice ia n ic) (alloc_keep (o' := o) hr) rfl
  have e1 := fun o => cells_at (i := 1) (v := .slice fa fl fc) (alloc_keep (o' := o) hr) rfl
  have e2 := fun o => cells_at (i := 2) (v := st) (alloc_keep (o' := o) hr) rfl
  have H36 : Hid (Calls Yba.prog 36 #[.agg #[.slice ia n ic, .slice fa fl fc, st], .slice da n dc] (w.alloc Z61) fun e w' =>
      e = .returned (.agg (outv (.slice da n dc) ag va te false false)) ∧ Chg gd (fun b => b = gd) (w.alloc Z61) w' ∧ Sl w' da n gd D) := h36
  clear h36
  go_enter Yba.func29, Yba.ntmps29
  go_wp2_with fail
  refine H36.out.mono ?_
  clear e0 e1 e2 H36
  rintro e w2 ⟨rfl, hC2, hD2⟩
  have A2 : w2.heap[w.heap.size]? = some Z61 := (hC2.same _ (by simp) (by (try dsimp only); omega)).trans (blk_new w _)
  have R2 := (hC2.same br (by simp; omega) nbr).trans (alloc_keep hr)
  have V2 := (hC2.same gv (by simp; omega) ngv).trans (alloc_keep hv)
  have hz2 : w.heap.size + 1 ≤ w2.heap.size := by have := hC2.size; simpa using this
  go_wp2_with fail
  obtain ⟨W3, hW3⟩ : ∃ W3, w2.alloc (.cells (outv (.slice da n dc) ag va te false false) 61) = W3 := ⟨_, rfl⟩
  have A3 : W3.heap[w.heap.size]? = some Z61 := by rw [← hW3]; exact alloc_keep A2
  have R3 := alloc_keep (o' := .cells (outv (.slice da n dc) ag va te false false) 61) R2
  have V3 := alloc_keep (o' := .cells (outv (.slice da n dc) ag va te false false) 61) V2
  have O3 : W3.heap[w2.heap.size]? = some (.cells (outv (.slice da n dc) ag va te false false) 61) := by rw [← hW3]; exact blk_new w2 _
  have b3 : Below w2.heap.size w2 W3 := by rw [← hW3]; exact below_one _ _
  have D3 := hD2.below b3
  rw [hW3] at R3 V3 ⊢
  clear hW3
  refine (report_calls gv w2.heap.size _ _ _ _ b1 b2 _ _ _ _ _ _ _ _ _ W3 (by omega) V3 O3).mono ?_
  rintro e w4 ⟨⟨y, rfl⟩, hC4, O4⟩
  have R4 := (hC4.same br (blk_lt R3) (by (try dsimp only); omega)).trans R3
  have A4 := (hC4.same w.heap.size (blk_lt A3) (by (try dsimp only); omega)).trans A3
  have D4 : Sl w4 da n gd D := D3.of_block (fun hp => hC4.same gd (D3.lt hp) (by have := hdl hp; (try dsimp only); omega))
  obtain ⟨P, hP⟩ : ∃ P, w2.heap.size = P := ⟨_, rfl⟩
  rw [hP] at O4 hz2 hC4 b3 ⊢
  have x10 := cells_at (i := 10) (v := .int .i64 0) R4 rfl
  have x11 := cells_at (i := 11) (v := .int .i64 0) R4 rfl
  have x12 := cells_at (i := 12) (v := .int .i64 0) R4 rfl
  have x6 := cells_at (i := 6) (v := .int .i64 0) O4 rfl
  have x7 := cells_at (i := 7) (v := .int .i64 0) O4 rfl
  have x8 := cells_at (i := 8) (v := .int .i64 0) O4 rfl
  have fz := fun i => frozen_at O4 i
  have nP : ¬ br = P := by omega
  go_wp2
  go_region
  have O5 : (((w4.setCell ⟨P, 6, none⟩ (.int .i64 0)).setCell ⟨P, 7, none⟩ (.int .i64 0)).setCell ⟨P, 8, none⟩ (.int .i64 0)).heap[P]? = some (.cells (outv (.slice da n dc) ag va te b1 b2) 61) := by
    have h6 : (w4.setCell ⟨P, 6, none⟩ (.int .i64 0)).heap[P]? = some (.cells (outv (.slice da n dc) ag va te b1 b2) 61) := blk_set O4 6 (.int .i64 0)
    have h7 : ((w4.setCell ⟨P, 6, none⟩ (.int .i64 0)).setCell ⟨P, 7, none⟩ (.int .i64 0)).heap[P]? = some (.cells (outv (.slice da n dc) ag va te b1 b2) 61) := blk_set h6 7 (.int .i64 0)
    exact blk_set h7 8 (.int .i64 0)
  have C5 : Chg gd (fun b => b = gd) w (((w4.setCell ⟨P, 6, none⟩ (.int .i64 0)).setCell ⟨P, 7, none⟩ (.int .i64 0)).setCell ⟨P, 8, none⟩ (.int .i64 0)) := by
    have a1 : Chg gd (fun b => b = gd) w w2 := ((Chg.refl gd (fun b => b = gd) w).alloc (by omega) Z61).trans hC2
    have a2 : Chg gd (fun b => b = gd) w W3 := a1.trans (Chg.of_below (hP ▸ b3) (by omega))
    have a3 : Chg gd (fun b => b = gd) w w4 := a2.trans_new (hC4.lower (by omega)) (fun b hb => .inr (by (try dsimp only at hb); omega))
    exact ((a3.setCell (p := ⟨P, 6, none⟩) (by (try dsimp only); omega) (.inr (by (try dsimp only); omega)) _).setCell (p := ⟨P, 7, none⟩) (by (try dsimp only); omega) (.inr (by (try dsimp only); omega)) _).setCell (p := ⟨P, 8, none⟩) (by (try dsimp only); omega) (.inr (by (try dsimp only); omega)) _
  have st : ∀ b, b ≠ P → (((w4.setCell ⟨P, 6, none⟩ (.int .i64 0)).setCell ⟨P, 7, none⟩ (.int .i64 0)).setCell ⟨P, 8, none⟩ (.int .i64 0)).heap[b]? = w4.heap[b]? := fun b hb => (Below.heap_setCell _ _ _ _ hb).trans ((Below.heap_setCell _ _ _ _ hb).trans (Below.heap_setCell _ _ _ _ hb))
  have A5 := (st w.heap.size (by omega)).trans A4
  have D5 : Sl _ da n gd D := D4.of_block (fun hp => st gd (by have := hdl hp; omega))
  obtain ⟨W5, hW5⟩ : ∃ W5, (((w4.setCell ⟨P, 6, none⟩ (.int .i64 0)).setCell ⟨P, 7, none⟩ (.int .i64 0)).setCell ⟨P, 8, none⟩ (.int .i64 0)) = W5 := ⟨_, rfl⟩
  rw [hW5] at O5 C5 A5 D5 ⊢
  clear hW5 st O4 R4 A4 D4 x10 x11 x12 x6 x7 x8 fz
  have p0 := cells_at (i := 0) (v := .slice da n dc) O5 rfl
  have p1 := cells_at (i := 1) (v := .bool ag) O5 rfl
  have p2 := cells_at (i := 2) (v := .bool va) O5 rfl
  have p3 := cells_at (i := 3) (v := .bool te) O5 rfl
  have p4 := cells_at (i := 4) (v := .bool b1) O5 rfl
  have p5 := cells_at (i := 5) (v := .bool b2) O5 rfl
  have p6 := cells_at (i := 6) (v := .int .i64 0) O5 rfl
  have p7 := cells_at (i := 7) (v := .int .i64 0) O5 rfl
  have p8 := cells_at (i := 8) (v := .int .i64 0) O5 rfl
  have r0 := cells_at (i := 0) (v := .slice none 0 0) A5 rfl
  have r1 := cells_at (i := 1) (v := .bool false) A5 rfl
  have r2 := cells_at (i := 2) (v := .bool false) A5 rfl
  have r3 := cells_at (i := 3) (v := .bool false) A5 rfl
  have r4 := cells_at (i := 4) (v := .bool false) A5 rfl
  have r5 := cells_at (i := 5) (v := .bool false) A5 rfl
  have r6 := cells_at (i := 6) (v := .int .i64 0) A5 rfl
  have r7 := cells_at (i := 7) (v := .int .i64 0) A5 rfl
  have r8 := cells_at (i := 8) (v := .int .i64 0) A5 rfl
  have fz := fun i => frozen_at A5 i
  obtain ⟨A, hA⟩ : ∃ A, w.heap.size = A := ⟨_, rfl⟩
  have HA : Hid (w.heap.size = A) := hA
  rw [hA] at A5 fz r0 r1 r2 r3 r4 r5 r6 r7 r8 ⊢
  have nPA : ¬ P = A := by omega
  have nAP : ¬ A = P := by omega
  clear hA
  go_wp2
  have E6 := set9_same (v0 := .slice da n dc) (v1 := .bool ag) (v2 := .bool va) (v3 := .bool te) (v4 := .bool b1) (v5 := .bool b2) (v6 := .int .i64 0) (v7 := .int .i64 0) (v8 := .int .i64 0) A5
  obtain ⟨W6, hW6⟩ : ∃ W6, set9 W5 A (.slice da n dc) (.bool ag) (.bool va) (.bool te) (.bool b1) (.bool b2) (.int .i64 0) (.int .i64 0) (.int .i64 0) = W6 := ⟨_, rfl⟩
  have C6 : Chg gd (fun b => b = gd) w W6 := by rw [← hW6]; exact set9_chg C5 (by have := HA.out; omega)
  have D6 : Sl W6 da n gd D := by rw [← hW6]; exact D5.of_block (fun h => set9_blk (fun e => by have := HA.out; have := hdl h; omega))
  dsimp only [set9] at hW6 E6
  rw [hW6] at E6 ⊢
  clear hW6
  have E7 := drew_blk E6
  have m0 := cells_at (i := 0) (v := .slice da n dc) E7 rfl
  have m1 := cells_at (i := 1) (v := .bool ag) E7 rfl
  have m2 := cells_at (i := 2) (v := .bool va) E7 rfl
  have m3 := cells_at (i := 3) (v := .bool te) E7 rfl
  have m4 := cells_at (i := 4) (v := .bool b1) E7 rfl
  have m5 := cells_at (i := 5) (v := .bool b2) E7 rfl
  have m6 := cells_at (i := 6) (v := .int .i64 0) E7 rfl
  have m7 := cells_at (i := 7) (v := .int .i64 0) E7 rfl
  have m8 := cells_at (i := 8) (v := .int .i64 0) E7 rfl
  refine bodyPost_ret (v := .agg (outv (.slice da n dc) ag va te b1 b2)) (by simp [results, Yba.results29, go_sem, m0, m1, m2, m3, m4, m5, m6, m7, m8]) rfl ⟨rfl, ?_, ?_⟩
  · exact C6.drew
  · exact D6

theorem routcome_calls (br gv : Nat) (ia da fa : Option Addr) (ic dc fl fc n gi gd : Nat) (st rs : Value) (z : Int) (b1 b2 : Bool) (Fa : Nat → Bool) (fi f : Nat → Int) (w : World)
    (hn : n ≤ 1024) (hf : fl ≤ maxLen) (hM : Marks w fa fl fc n Fa) (hfa : ∀ b o, fa = some ⟨b, o, none⟩ → b ≠ gd) (hid : 0 < n → gi ≠ gd) (hi : Sl w ia n gi fi) (hd : Sl w da n gd f) (hgd : gd < w.heap.size)
    (hr : w.heap[br]? = some (.cells (rcells (.slice ia n ic) (.slice fa fl fc) st rs) 57)) (hv : w.heap[gv]? = some (.cells #[.slice ia n ic, .slice fa fl fc, st, .int .i64 z, .bool b1, .bool b2] 88)) (nbr : br ≠ gd) (ngv : gv ≠ gd) :
    Calls Yba.prog 29 #[.pointer (some ⟨br, 0, none⟩), .slice da n dc, .pointer (some ⟨gv, 0, none⟩)] w fun e w' =>
      e = .returned (.agg (outv (.slice da n dc) (!(heldB (decs f Fa n) Fa 0 n && heldB (decs f Fa n) Fa 1 n)) ((!heldB (decs f Fa n) Fa 0 n || heldB fi Fa 0 n) && (!heldB (decs f Fa n) Fa 1 n || heldB fi Fa 1 n)) (termB f Fa n) b1 b2)) ∧
      Chg gd (fun b => b = gd) w w' ∧ Sl w' da n gd (decs f Fa n) :=
  routcome_aux br gv ia da fa ic dc fl fc n gd st rs z b1 b2 _ _ _ _ w hgd hr hv nbr ngv
    (outcome_calls ia da fa ic dc fl fc n gi gd st Fa fi f _ hn hf (hM.below (below_one _ _)) hfa hid (hi.below (below_one _ _)) (hd.below (below_one _ _)) (by simp; omega)) (fun _ => hgd)
end Go.Proofs.Ybulkyva
