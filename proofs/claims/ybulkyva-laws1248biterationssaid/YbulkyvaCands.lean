import Derived.Test.YbulkyvaPruned2
import Derived.Lib.MinMax
namespace Go.Proofs.Ybulkyva
open Go.RowKit Go.Shelf
set_option linter.unusedVariables false
attribute [local go_sem] Oper.semAt_some

/-- An invariant, and one block besides that holds o. -/
def withObj (J : Inv) (A : Nat) (o : Obj) : Inv := fun X c m L W => J (fun b => X b ∨ b = A) c m L W ∧ W.heap[A]? = some o ∧ ¬ X A
theorem withObj_abides {B : Nat} {J : Inv} (h : Abides B J) (A : Nat) (o : Obj) : Abides B (withObj J A o) where
  turn := by
    rintro X c m L W W' ⟨hJ, hl, nl⟩ hc
    exact ⟨h.turn hJ (hc.mono (fun b hb => .inl hb)), (hc.same A (blk_lt hl) nl).trans hl, nl⟩
  weak := by
    rintro X Y c m L W ⟨hJ, hl, nl⟩ hY
    refine ⟨h.weak hJ (fun b hb => ?_), hl, fun y => (hY A y).elim nl (fun k => by have := blk_lt hl; omega)⟩
    rcases hb with hb | hb
    · exact (hY b hb).elim (fun x => .inl (.inl x)) .inr
    · exact .inl (.inr hb)

/-- The box that holds yield. -/
abbrev ybox (l : Nat) : Obj := .cells #[.func (.yield l) #[] #[]] 41

theorem three_boxes (W : World) (o1 o2 o3 : Obj) : (((W.alloc o1).alloc o2).alloc o3).heap[W.heap.size]? = some o1 ∧ (((W.alloc o1).alloc o2).alloc o3).heap[W.heap.size + 1]? = some o2 ∧ (((W.alloc o1).alloc o2).alloc o3).heap[W.heap.size + 2]? = some o3 := by
  refine ⟨alloc_keep (alloc_keep (blk_new W o1)), alloc_keep (blk_3 W o1 o2), ?_⟩
  have h := blk_new ((W.alloc o1).alloc o2) o3
  simp only [World.size_alloc] at h
  exact h

set_option maxHeartbeats 4000000 in
set_option maxRecDepth 100000 in
theorem cands0 (B n f Bk Bn : Nat) (m : Nat) (L : Nat → Int) (X : Nat → Prop) (w : World) (hn : n ≤ 64) (hf : f ≤ 2) (hmin : f ≤ 0 ∨ n ≤ 0) (hB : B ≤ w.heap.size) (hX : ∀ b, X b → b < w.heap.size)
    (hk : w.heap[Bk]? = some (.cells #[.int .i64 f] 3)) (hN : w.heap[Bn]? = some (.cells #[.int .i64 n] 3)) (xk : X Bk) (xn : X Bn) :
    Iterates B n f X 0 m L 1 0 33 #[.pointer (some ⟨Bk, 0, none⟩), .pointer (some ⟨Bn, 0, none⟩)] w := by
  intro J' l q W1 hA hY hj old hz hXb
  have kb := (old Bk (blk_lt hk)).trans hk
  have nb := (old Bn (blk_lt hN)).trans hN
  have k1 := cells_at (i := 0) (v := .int .i64 f) kb rfl
  have n1 := cells_at (i := 0) (v := .int .i64 n) nb rfl
  have k2 := fun o => cells_at (i := 0) (v := .int .i64 f) (alloc_keep (o' := o) kb) rfl
  have n2 := fun o => cells_at (i := 0) (v := .int .i64 n) (alloc_keep (o' := o) nb) rfl
  have hm0 : min (f : Int) (n : Int) = 0 := by omega
  refine callsIn_of_wp_marks Yba.func33 rfl trivial ?_ rfl
  refine wpIn_wide.2 ?_
  simp only [Yba.ntmps33, List.size_toArray, List.length_cons, List.length_nil, Nat.reduceAdd, Nat.reduceSub, Array.replicate_succ, Array.replicate_zero, List.push_toArray, List.append_toArray, List.nil_append, List.cons_append]
  go_wp2
  refine wp_loop_rounds 2 ?_
  rw [rounds_succ]
  go_wp2_with (go_at_call 34; refine (of_calls _ _ _).mono ?_; rintro e w' ⟨rfl, rfl⟩)
  obtain ⟨A, hAA⟩ : ∃ A, W1.heap.size = A := ⟨_, rfl⟩
  rw [hAA]
  obtain ⟨Wy, hWy⟩ : ∃ Wy, W1.alloc (.cells #[.func (.yield l) #[] #[]] 41) = Wy := ⟨_, rfl⟩
  have hy0 : withObj J' A (ybox l) X 0 m L Wy := by
    subst hAA; subst hWy
    exact ⟨hA.turn (hA.weak hj (fun b hb => hb.elim .inl (fun e => .inr (by omega)))) ((Chg.refl B _ W1).alloc (by omega) _), blk_new W1 _, fun h => by have := hX _ h; omega⟩
  have hs0 : Same X W1 Wy := by subst hWy; exact fun b hb _ => Below.heap_alloc _ _ _ hb
  have hz0 : Wy.heap.size = A + 1 := by subst hAA; subst hWy; simp
  rw [hWy]
  clear hWy
  obtain ⟨t1, t2, t3⟩ := three_boxes Wy (.cells #[.int .i64 n] 3) (.cells #[.int .i64 0] 3) (.cells #[.nilFunc] 41)
  obtain ⟨W4, hW4⟩ : ∃ W4, (((Wy.alloc (.cells #[.int .i64 n] 3)).alloc (.cells #[.int .i64 0] 3)).alloc (.cells #[.nilFunc] 41)) = W4 := ⟨_, rfl⟩
  have hc4 : Chg B (fun b => X b ∨ (A + 1 ≤ b ∧ b < A + 4)) Wy W4 := by rw [← hW4]; exact (((Chg.refl B _ Wy).alloc (by omega) _).alloc (by omega) _).alloc (by omega) _
  have hz4 : W4.heap.size = A + 4 := by rw [← hW4]; simp [hz0]
  have hs4 : Same X W1 W4 := fun b hb hXb => by
    refine (?_ : W4.heap[b]? = Wy.heap[b]?).trans (hs0 b hb hXb)
    rw [← hW4]
    exact (Below.heap_alloc _ _ _ (by simp; omega)).trans ((Below.heap_alloc _ _ _ (by simp; omega)).trans (Below.heap_alloc _ _ _ (by omega)))
  rw [hz0] at t1 t2 t3
  rw [hW4] at t1 t2 t3 ⊢
  clear hW4
  refine (wpIn_wide (n := q)).1 ?_
  refine range_law (n := n) (f := f) (withObj_abides hA A (ybox l)) (gf := 42) (lb := #[.pointer (some ⟨A + 1 + 1, 0, none⟩), .pointer (some ⟨A + 1, 0, none⟩), .pointer (some ⟨A + 1 + 2, 0, none⟩)]) rfl (enters_of Yba.func42 (by kernel_rfl) rfl)
    (X := fun b => X b ∨ (A + 1 ≤ b ∧ b < A + 4)) (c := 0) (m := m) (L := L) ?h0 ?hX ?hB ?hbody
    (pruned0 B n f 0 m 0 (A + 1 + 1) (A + 1) (A + 1 + 2) L _ W4 hn (Nat.le_refl _) (by omega) t2 t1 t3 (.inr (by omega)) (.inr (by omega)) (.inr (by omega)) rfl) ?hdone
  case h0 => exact (withObj_abides hA A (ybox l)).turn ((withObj_abides hA A (ybox l)).weak hy0 (fun b hb => hb.elim .inl (fun e => .inr (by omega)))) hc4
  case hX => rintro b (hb | hb); exact Nat.lt_of_lt_of_le (hX b hb) (by omega); omega
  case hB => omega
  case hbody =>
    rintro l' D' X' c' m' L' g k F W q' ⟨hj, hb, nA⟩ hg hr hF xl xD hXb'
    gi_wp2
    refine ⟨trivial, ?_⟩
    rintro W2 ⟨hj2, hb2, _⟩ hr2 hz2
    have cA := cells_at (i := 0) (v := .func (.yield l) #[] #[]) hb2 rfl
    obtain ⟨fn, tm, asg, bod, hyy, hR⟩ := hY _ c' m' L' g k F W2 hj2 (.inl hg) hr2 hF (fun b hb => hb.elim (fun x => Nat.lt_of_lt_of_le (hXb' b x) hz2) (fun e => e ▸ blk_lt hb2)) (q' - 1)
    gi_wp2
    refine ⟨fun h => by simp [Fence.wide] at h, hR.mono ?_⟩
    rintro e W3 ⟨rfl, hj3, hs3, hz3⟩
    gi_wp2
    exact ⟨⟨hj3, (hs3 A (blk_lt hb2) (.inr rfl)).trans hb2, nA⟩, fun b hb hXb => hs3 b hb (.inl hXb)⟩
  case hdone =>
    intro D L' W hD hj5 hd5 hs5 hz5
    have kb5 := (hs5 Bk (by have := hX _ xk; omega) (.inl xk)).trans ((hs4 Bk (by have := hX _ xk; omega) xk).trans kb)
    have nb5 := (hs5 Bn (by have := hX _ xn; omega) (.inl xn)).trans ((hs4 Bn (by have := hX _ xn; omega) xn).trans nb)
    have k5 := cells_at (i := 0) (v := .int .i64 f) kb5 rfl
    have n5 := cells_at (i := 0) (v := .int .i64 n) nb5 rfl
    go_wp2
    rw [rounds_succ]
    go_wp2
    have hlt1 : ∀ b, X b → b < W1.heap.size := fun b hb => Nat.lt_of_lt_of_le (hX b hb) hz
    refine ⟨by simp, .inl ⟨_, _, rfl, run_takeDeferred hd5, ?_⟩⟩
    refine ⟨_, results_none rfl _ _ _, ⟨_, rfl⟩, ⟨L', hA.weak (hA.turn hj5.1 ((Chg.refl B _ W).putObj (by omega) (.inl (.inl (.inr (.inl rfl)))) _)) (fun b hb => .inl (.inl (.inl (.inl hb))))⟩, ?_, ?_⟩
    · intro b hb hXb
      exact (World.putObj_heap_other (by omega)).trans ((hs5 b (by omega) (.inl hXb)).trans (hs4 b hb hXb))
    · simp; omega
end Go.Proofs.Ybulkyva
