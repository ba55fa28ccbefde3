import Derived.Test.YbulkyvaCands
namespace Go.Proofs.Ybulkyva
open Go.RowKit Go.Shelf
set_option linter.unusedVariables false
attribute [local go_sem] Oper.semAt_some

set_option maxHeartbeats 8000000 in
set_option maxRecDepth 100000 in
theorem cands2 (B n f Bk Bn : Nat) (m : Nat) (L : Nat → Int) (X : Nat → Prop) (w : World) (hn : n ≤ 64) (hf : f ≤ 2) (h1f : 2 ≤ f) (h1n : 2 ≤ n) (hB : B ≤ w.heap.size) (hX : ∀ b, X b → b < w.heap.size)
    (hk : w.heap[Bk]? = some (.cells #[.int .i64 f] 3)) (hN : w.heap[Bn]? = some (.cells #[.int .i64 n] 3)) (xk : X Bk) (xn : X Bn) :
    Iterates B n f X 0 m L (0 + 1 + n + pb n (n - 1)) 2 33 #[.pointer (some ⟨Bk, 0, none⟩), .pointer (some ⟨Bn, 0, none⟩)] w := by
  intro J' l q W1 hA hY hj old hz hXb
  have kb := (old Bk (blk_lt hk)).trans hk
  have nb := (old Bn (blk_lt hN)).trans hN
  have k1 := cells_at (i := 0) (v := .int .i64 f) kb rfl
  have n1 := cells_at (i := 0) (v := .int .i64 n) nb rfl
  have k2 := fun o => cells_at (i := 0) (v := .int .i64 f) (alloc_keep (o' := o) kb) rfl
  have n2 := fun o => cells_at (i := 0) (v := .int .i64 n) (alloc_keep (o' := o) nb) rfl
  have hm0 : min (f : Int) (n : Int) = 2 := by omega
  have hlt1 : ∀ b, X b → b < W1.heap.size := fun b hb => Nat.lt_of_lt_of_le (hX b hb) hz
  refine callsIn_of_wp_marks Yba.func33 rfl trivial ?_ rfl
  refine wpIn_wide.2 ?_
  simp only [Yba.ntmps33, List.size_toArray, List.length_cons, List.length_nil, Nat.reduceAdd, Nat.reduceSub, Array.replicate_succ, Array.replicate_zero, List.push_toArray, List.append_toArray, List.nil_append, List.cons_append]
  go_wp2
  refine wp_loop_rounds 4 ?_
  rw [rounds_succ]
  go_wp2_with (go_at_call 34; refine (of_calls _ _ _).mono ?_; rintro e w' ⟨rfl, rfl⟩)
  obtain ⟨A, hAA⟩ : ∃ A, W1.heap.size = A := ⟨_, rfl⟩
  rw [hAA]
  obtain ⟨V0, hV0⟩ : ∃ V0, W1.alloc (.cells #[.func (.yield l) #[] #[]] 41) = V0 := ⟨_, rfl⟩
  have j0 : withObj J' A (ybox l) X 0 m L V0 := by
    subst hAA; subst hV0
    exact ⟨hA.turn (hA.weak hj (fun b hb => hb.elim .inl (fun e => .inr (by omega)))) ((Chg.refl B _ W1).alloc (by omega) _), blk_new W1 _, fun h => by have := hX _ h; omega⟩
  have s0 : Same X W1 V0 := by subst hV0; exact fun b hb _ => Below.heap_alloc _ _ _ hb
  have z0 : V0.heap.size = A + 1 := by subst hAA; subst hV0; simp
  have y0 : W1.heap.size ≤ V0.heap.size := by omega
  rw [hV0]
  clear hV0 k2 n2
  obtain ⟨a1, a2, a3⟩ := three_boxes V0 (.cells #[.int .i64 n] 3) (.cells #[.int .i64 0] 3) (.cells #[.nilFunc] 41)
  obtain ⟨U0, hU0⟩ : ∃ U, (((V0.alloc (.cells #[.int .i64 n] 3)).alloc (.cells #[.int .i64 0] 3)).alloc (.cells #[.nilFunc] 41)) = U := ⟨_, rfl⟩
  have hc0 : Chg B (fun b => X b ∨ (A + 1 ≤ b ∧ b < A + 1 + 3)) V0 U0 := by rw [← hU0]; exact (((Chg.refl B _ V0).alloc (by omega) _).alloc (by omega) _).alloc (by omega) _
  have x0 : U0.heap.size = A + 1 + 3 := by rw [← hU0]; simp [z0]
  have o0 : ∀ b, b < V0.heap.size → U0.heap[b]? = V0.heap[b]? := fun b hb => by
    rw [← hU0]
    exact (Below.heap_alloc _ _ _ (by simp; omega)).trans ((Below.heap_alloc _ _ _ (by simp; omega)).trans (Below.heap_alloc _ _ _ hb))
  have t0 : Same X W1 U0 := fun b hb hXb => (o0 b (by omega)).trans (s0 b hb hXb)
  rw [z0] at a1 a2 a3
  rw [hU0] at a1 a2 a3 ⊢
  clear hU0
  refine (wpIn_wide (n := q)).1 ?_
  refine range_law (n := n) (f := f) (withObj_abides hA A (ybox l)) (gf := 42) (lb := #[.pointer (some ⟨A + 1 + 1, 0, none⟩), .pointer (some ⟨A + 1, 0, none⟩), .pointer (some ⟨A + 1 + 2, 0, none⟩)]) rfl (enters_of Yba.func42 (by kernel_rfl) rfl)
    (X := fun b => X b ∨ (A + 1 ≤ b ∧ b < A + 1 + 3)) (c := 0) (m := m) (L := L) ?h0 ?e0 ?i0 ?p0 (pruned0 B n f 0 m 0 (A + 1 + 1) (A + 1) (A + 1 + 2) L _ U0 hn (Nat.le_refl _) (by omega) a2 a1 a3 (.inr (by omega)) (.inr (by omega)) (.inr (by omega)) rfl) ?d0
  case h0 => exact (withObj_abides hA A (ybox l)).turn ((withObj_abides hA A (ybox l)).weak j0 (fun b hb => hb.elim .inl (fun e => .inr (by omega)))) hc0
  case e0 => rintro b (hb | hb); exact Nat.lt_of_lt_of_le (hX b hb) (by omega); omega
  case i0 => omega
  case p0 =>
    rintro l' D' X' c' m' L' g k F W q' ⟨hj, hb, nA⟩ hg hr hF xl xD hXb'
    gi_wp2
    refine ⟨trivial, ?_⟩
    rintro W2 ⟨hj2, hb2, _⟩ hr2 hz2
    have cA := cells_at (i := 0) (v := .func (.yield l) #[] #[]) hb2 rfl
    obtain ⟨fn, tm, asg, bod, hyy, hR⟩ := hY _ c' m' L' g k F W2 hj2 (.inl hg) hr2 hF (fun b hb => hb.elim (fun x => Nat.lt_of_lt_of_le (hXb' b x) hz2) (fun e => e ▸ blk_lt hb2)) (q' - 1)
    gi_wp2
    refine ⟨fun h => by simp [Fence.wide] at h, hR.mono ?_⟩
    rintro e W3 ⟨rfl, hj3, hs3, hz3⟩
    gi_wp2
    exact ⟨⟨hj3, (hs3 A (blk_lt hb2) (.inr rfl)).trans hb2, nA⟩, fun b hb hXb => hs3 b hb (.inl hXb)⟩
  case d0 =>
    intro D0 L0 V1 lD0 j1 g00 v0 w0
    have q0 := blk_lt g00
    have s1 : Same X W1 V1 := fun b hb hXb => (v0 b (by omega) (.inl hXb)).trans (t0 b hb hXb)
    have y1 : W1.heap.size ≤ V1.heap.size := by omega
    have kb0 := (s1 Bk (hlt1 _ xk) xk).trans kb
    have nb0 := (s1 Bn (hlt1 _ xn) xn).trans nb
    have kc0 := cells_at (i := 0) (v := .int .i64 f) kb0 rfl
    have nc0 := cells_at (i := 0) (v := .int .i64 n) nb0 rfl
    go_wp2
    rw [rounds_succ]
    go_wp2_with (go_at_call 34; refine (of_calls _ _ _).mono ?_; rintro e w' ⟨rfl, rfl⟩)
    obtain ⟨S1, hS1⟩ : ∃ S, V1.heap.size = S := ⟨_, rfl⟩
    rw [hS1]
    obtain ⟨b1, b2, b3⟩ := three_boxes V1 (.cells #[.int .i64 n] 3) (.cells #[.int .i64 1] 3) (.cells #[.nilFunc] 41)
    obtain ⟨U1, hU1⟩ : ∃ U, (((V1.alloc (.cells #[.int .i64 n] 3)).alloc (.cells #[.int .i64 1] 3)).alloc (.cells #[.nilFunc] 41)) = U := ⟨_, rfl⟩
    have hc1 : Chg B (fun b => X b ∨ b = D0 ∨ (S1 ≤ b ∧ b < S1 + 3)) V1 U1 := by rw [← hU1]; exact (((Chg.refl B _ V1).alloc (by omega) _).alloc (by omega) _).alloc (by omega) _
    have x1 : U1.heap.size = S1 + 3 := by rw [← hU1]; simp [hS1]
    have o1 : ∀ b, b < V1.heap.size → U1.heap[b]? = V1.heap[b]? := fun b hb => by
      rw [← hU1]
      exact (Below.heap_alloc _ _ _ (by simp; omega)).trans ((Below.heap_alloc _ _ _ (by simp; omega)).trans (Below.heap_alloc _ _ _ hb))
    have t1 : Same X W1 U1 := fun b hb hXb => (o1 b (by omega)).trans (s1 b hb hXb)
    rw [hS1] at b1 b2 b3
    rw [hU1] at b1 b2 b3 ⊢
    clear hU1
    refine (wpIn_wide (n := q)).1 ?_
    refine range_law (n := n) (f := f) (withObj_abides hA A (ybox l)) (gf := 42) (lb := #[.pointer (some ⟨S1 + 1, 0, none⟩), .pointer (some ⟨S1, 0, none⟩), .pointer (some ⟨S1 + 2, 0, none⟩)]) rfl (enters_of Yba.func42 (by kernel_rfl) rfl)
      (X := fun b => X b ∨ b = D0 ∨ (S1 ≤ b ∧ b < S1 + 3)) (c := (0 + 1)) (m := 0) (L := L0) ?h1 ?e1 ?i1 ?p1 (pruned1 B n f (0 + 1) 0 1 (S1 + 1) (S1) (S1 + 2) L0 _ U1 hn (Nat.le_refl _) (Nat.le_refl _) (by omega) (by omega) (by omega) b2 b1 b3 (.inr (.inr (by omega))) (.inr (.inr (by omega))) (.inr (.inr (by omega))) (by omega) (by omega)) ?d1
    case h1 => exact (withObj_abides hA A (ybox l)).turn ((withObj_abides hA A (ybox l)).weak j1 (fun b hb => by rcases hb with hb | hb | hb; exact .inl (.inl (.inl hb)); exact .inl (.inr (.inl hb)); exact .inr (by omega))) hc1
    case e1 => rintro b (hb | hb | hb); exact Nat.lt_of_lt_of_le (hX b hb) (by omega); omega; omega
    case i1 => omega
    case p1 =>
      rintro l' D' X' c' m' L' g k F W q' ⟨hj, hb, nA⟩ hg hr hF xl xD hXb'
      gi_wp2
      refine ⟨trivial, ?_⟩
      rintro W2 ⟨hj2, hb2, _⟩ hr2 hz2
      have cA := cells_at (i := 0) (v := .func (.yield l) #[] #[]) hb2 rfl
      obtain ⟨fn, tm, asg, bod, hyy, hR⟩ := hY _ c' m' L' g k F W2 hj2 (.inl hg) hr2 hF (fun b hb => hb.elim (fun x => Nat.lt_of_lt_of_le (hXb' b x) hz2) (fun e => e ▸ blk_lt hb2)) (q' - 1)
      gi_wp2
      refine ⟨fun h => by simp [Fence.wide] at h, hR.mono ?_⟩
      rintro e W3 ⟨rfl, hj3, hs3, hz3⟩
      gi_wp2
      exact ⟨⟨hj3, (hs3 A (blk_lt hb2) (.inr rfl)).trans hb2, nA⟩, fun b hb hXb => hs3 b hb (.inl hXb)⟩
    case d1 =>
      intro D1 L1 V2 lD1 j2 g11 v1 w1
      have q1 := blk_lt g11
      have s2 : Same X W1 V2 := fun b hb hXb => (v1 b (by omega) (.inl hXb)).trans (t1 b hb hXb)
      have y2 : W1.heap.size ≤ V2.heap.size := by omega
      have g01 := (v1 D0 (by have := blk_lt g00; omega) (.inr (.inl rfl))).trans ((o1 D0 (blk_lt g00)).trans g00)
      have kb1 := (s2 Bk (hlt1 _ xk) xk).trans kb
      have nb1 := (s2 Bn (hlt1 _ xn) xn).trans nb
      have kc1 := cells_at (i := 0) (v := .int .i64 f) kb1 rfl
      have nc1 := cells_at (i := 0) (v := .int .i64 n) nb1 rfl
      go_wp2
      rw [rounds_succ]
      go_wp2_with (go_at_call 34; refine (of_calls _ _ _).mono ?_; rintro e w' ⟨rfl, rfl⟩)
      obtain ⟨S2, hS2⟩ : ∃ S, V2.heap.size = S := ⟨_, rfl⟩
      rw [hS2]
      obtain ⟨c1, c2, c3⟩ := three_boxes V2 (.cells #[.int .i64 n] 3) (.cells #[.int .i64 2] 3) (.cells #[.nilFunc] 41)
      obtain ⟨U2, hU2⟩ : ∃ U, (((V2.alloc (.cells #[.int .i64 n] 3)).alloc (.cells #[.int .i64 2] 3)).alloc (.cells #[.nilFunc] 41)) = U := ⟨_, rfl⟩
      have hc2 : Chg B (fun b => X b ∨ b = D0 ∨ b = D1 ∨ (S2 ≤ b ∧ b < S2 + 3)) V2 U2 := by rw [← hU2]; exact (((Chg.refl B _ V2).alloc (by omega) _).alloc (by omega) _).alloc (by omega) _
      have x2 : U2.heap.size = S2 + 3 := by rw [← hU2]; simp [hS2]
      have o2 : ∀ b, b < V2.heap.size → U2.heap[b]? = V2.heap[b]? := fun b hb => by
        rw [← hU2]
        exact (Below.heap_alloc _ _ _ (by simp; omega)).trans ((Below.heap_alloc _ _ _ (by simp; omega)).trans (Below.heap_alloc _ _ _ hb))
      have t2 : Same X W1 U2 := fun b hb hXb => (o2 b (by omega)).trans (s2 b hb hXb)
      rw [hS2] at c1 c2 c3
      rw [hU2] at c1 c2 c3 ⊢
      clear hU2
      refine (wpIn_wide (n := q)).1 ?_
      refine range_law (n := n) (f := f) (withObj_abides hA A (ybox l)) (gf := 42) (lb := #[.pointer (some ⟨S2 + 1, 0, none⟩), .pointer (some ⟨S2, 0, none⟩), .pointer (some ⟨S2 + 2, 0, none⟩)]) rfl (enters_of Yba.func42 (by kernel_rfl) rfl)
        (X := fun b => X b ∨ b = D0 ∨ b = D1 ∨ (S2 ≤ b ∧ b < S2 + 3)) (c := (0 + 1 + n)) (m := 1) (L := L1) ?h2 ?e2 ?i2 ?p2 (pruned2 B n f (0 + 1 + n) 1 2 (S2 + 1) (S2) (S2 + 2) L1 _ U2 hn (Nat.le_refl _) (Nat.le_refl _) (by omega) (by omega) (by omega) c2 c1 c3 (.inr (.inr (.inr (by omega)))) (.inr (.inr (.inr (by omega)))) (.inr (.inr (.inr (by omega)))) (by omega) (by omega)) ?d2
      case h2 => exact (withObj_abides hA A (ybox l)).turn ((withObj_abides hA A (ybox l)).weak j2 (fun b hb => by rcases hb with hb | hb | hb | hb; exact .inl (.inl (.inl hb)); exact .inl (.inl (.inr (.inl hb))); exact .inl (.inr (.inl hb)); exact .inr (by omega))) hc2
      case e2 => rintro b (hb | hb | hb | hb); exact Nat.lt_of_lt_of_le (hX b hb) (by omega); omega; omega; omega
      case i2 => omega
      case p2 =>
        rintro l' D' X' c' m' L' g k F W q' ⟨hj, hb, nA⟩ hg hr hF xl xD hXb'
        gi_wp2
        refine ⟨trivial, ?_⟩
        rintro W2 ⟨hj2, hb2, _⟩ hr2 hz2
        have cA := cells_at (i := 0) (v := .func (.yield l) #[] #[]) hb2 rfl
        obtain ⟨fn, tm, asg, bod, hyy, hR⟩ := hY _ c' m' L' g k F W2 hj2 (.inl hg) hr2 hF (fun b hb => hb.elim (fun x => Nat.lt_of_lt_of_le (hXb' b x) hz2) (fun e => e ▸ blk_lt hb2)) (q' - 1)
        gi_wp2
        refine ⟨fun h => by simp [Fence.wide] at h, hR.mono ?_⟩
        rintro e W3 ⟨rfl, hj3, hs3, hz3⟩
        gi_wp2
        exact ⟨⟨hj3, (hs3 A (blk_lt hb2) (.inr rfl)).trans hb2, nA⟩, fun b hb hXb => hs3 b hb (.inl hXb)⟩
      case d2 =>
        intro D2 L2 V3 lD2 j3 g22 v2 w2
        have q2 := blk_lt g22
        have s3 : Same X W1 V3 := fun b hb hXb => (v2 b (by omega) (.inl hXb)).trans (t2 b hb hXb)
        have y3 : W1.heap.size ≤ V3.heap.size := by omega
        have g02 := (v2 D0 (by have := blk_lt g01; omega) (.inr (.inl rfl))).trans ((o2 D0 (blk_lt g01)).trans g01)
        have g12 := (v2 D1 (by have := blk_lt g11; omega) (.inr (.inr (.inl rfl)))).trans ((o2 D1 (blk_lt g11)).trans g11)
        have kb2 := (s3 Bk (hlt1 _ xk) xk).trans kb
        have nb2 := (s3 Bn (hlt1 _ xn) xn).trans nb
        have kc2 := cells_at (i := 0) (v := .int .i64 f) kb2 rfl
        have nc2 := cells_at (i := 0) (v := .int .i64 n) nb2 rfl
        go_wp2
        rw [rounds_succ]
        go_wp2
        refine ⟨by simp, .inl ⟨_, _, rfl, run_takeDeferred g22, ?_⟩⟩
        refine ⟨by simp, .inl ⟨_, _, rfl, run_takeDeferred ((World.putObj_heap_other (by omega)).trans g12), ?_⟩⟩
        refine ⟨by simp, .inl ⟨_, _, rfl, run_takeDeferred ((World.putObj_heap_other (by omega)).trans ((World.putObj_heap_other (by omega)).trans g02)), ?_⟩⟩
        refine ⟨_, results_none rfl _ _ _, ⟨_, rfl⟩, ⟨L2, hA.weak (hA.turn j3.1 ((((Chg.refl B _ V3).putObj (by omega) (.inl (.inl (.inr (.inl rfl)))) _).putObj (by omega) (.inl (.inl (.inl (.inr (.inr (.inl rfl)))))) _).putObj (by omega) (.inl (.inl (.inl (.inr (.inl rfl))))) _)) (fun b hb => .inl (.inl (.inl (.inl hb))))⟩, ?_, ?_⟩
        · intro b hb hXb
          exact ((World.putObj_heap_other (by omega)).trans ((World.putObj_heap_other (by omega)).trans ((World.putObj_heap_other (by omega)).trans (s3 b hb hXb))))
        · simp; omega
end Go.Proofs.Ybulkyva
