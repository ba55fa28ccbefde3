import Derived.Test.YbulkyvaLeaf4
import Derived.RangeFuncNested
import Derived.RangeFuncBound
import Derived.RangeFuncCalls
import Derived.RangeFuncLeaves
import Derived.Shelf.Abstract
import Derived.Shelf.RegionOpen
import Derived.OwnWalkIn
import Derived.TacticsInMore
import Derived.LoopNIn
import Derived.LoopIn
namespace Go.Proofs.Ybulkyva
open Go.RowKit
set_option linter.unusedVariables false

/-- The invariant of a loop over the candidate sets: X: blocks that are not its own; c sets have come; the last was L, of m numbers. -/
abbrev Inv := (Nat → Prop) → Nat → Nat → (Nat → Int) → World → Prop

/-- What an invariant owes: it bears turns of blocks that are not its own; and it may be told of fewer, or of new ones. -/
structure Abides (B : Nat) (J : Inv) : Prop where
  turn : ∀ {X c m L W W'}, J X c m L W → Chg B X W W' → J X c m L W'
  weak : ∀ {X Y c m L W}, J X c m L W → (∀ b, Y b → X b ∨ W.heap.size ≤ b) → J Y c m L W

/-- Blocks of X lie as they lay. -/
def Same (X : Nat → Prop) (W W' : World) : Prop := ∀ b, b < W.heap.size → X b → W'.heap[b]? = W.heap[b]?
theorem Same.refl (X : Nat → Prop) (W : World) : Same X W W := fun _ _ _ => rfl

/-- WHAT A ROUND OF THE LOOP l DOES, WHATEVER THE ITERATOR. -/
def Yields (B n f : Nat) (J : Inv) (l : Nat) : Prop :=
  ∀ (X : Nat → Prop) (c m : Nat) (L : Nat → Int) (g k : Nat) (F : Nat → Int) (W : World), J X c m L W → X g → IRow W g k F → Follows n f c m L k F → (∀ b, X b → b < W.heap.size) →
    ∀ q, YieldAt Fence.wide q Yba.prog l #[.slice (some ⟨g, 0, none⟩) k k] W fun e W' =>
      e = .returned (.bool true) ∧ J X (c + 1) k F W' ∧ Same X W W' ∧ W.heap.size ≤ W'.heap.size

/-- The loop's record: the blocks D (its rounds' deferred calls) and l (the record) besides the invariant. -/
def withRec (J : Inv) (D l : Nat) (r : Loop) : Inv := fun X c m L W =>
  J (fun b => X b ∨ b = D ∨ b = l) c m L W ∧ W.heap[l]? = some (.loop r) ∧ W.heap[D]? = some (.deferred (some [])) ∧ ¬ X l ∧ ¬ X D

theorem withRec_abides {B : Nat} {J : Inv} (h : Abides B J) (D l : Nat) (r : Loop) : Abides B (withRec J D l r) where
  turn := by
    rintro X c m L W W' ⟨hJ, hl, hD, nl, nD⟩ hc
    exact ⟨h.turn hJ (hc.mono (fun b hb => .inl hb)), (hc.same l (blk_lt hl) nl).trans hl, (hc.same D (blk_lt hD) nD).trans hD, nl, nD⟩
  weak := by
    rintro X Y c m L W ⟨hJ, hl, hD, nl, nD⟩ hY
    refine ⟨h.weak hJ (fun b hb => ?_), hl, hD, fun y => ?_, fun y => ?_⟩
    · rcases hb with hb | hb | hb
      · exact (hY b hb).elim (fun x => .inl (.inl x)) .inr
      · exact .inl (.inr (.inl hb))
      · exact .inl (.inr (.inr hb))
    · exact (hY l y).elim nl (fun k => by have := blk_lt hl; omega)
    · exact (hY D y).elim nD (fun k => by have := blk_lt hD; omega)

variable {B n f : Nat} {J : Inv}

/-- ONE ROUND: from the walk of its assign code and of its body. -/
theorem yields_of (hJ : Abides B J) {D l : Nat} {fn : FuncId} {tmps : Array Value} {p : Tmp} {assign body : Code} (hBD : B ≤ D) (hBl : B ≤ l) (hDl : D ≠ l) {dd : Nat}
    (hbody : ∀ (X : Nat → Prop) (c m : Nat) (L : Nat → Int) (g k : Nat) (F : Nat → Int) (W : World) (q : Nat), J X c m L W → X g → IRow W g k F → Follows n f c m L k F → X l → X D → (∀ b, X b → b < W.heap.size) →
      assign.wpIn (Fence.wide.inRound l) q Yba.prog (Exit.then (fun a₁ w₁ => w₁ = W ∧ ∀ W2, J X c m L W2 → IRow W2 g k F → W.heap.size ≤ W2.heap.size →
        body.wpIn (Fence.wide.inRound l) q Yba.prog (fun e a₂ w₃ => e = .normal ∧ J X (c + 1) k F w₃ ∧ Same X W2 w₃ ∧ W2.heap.size ≤ w₃.heap.size) a₁ W2) (fun _ _ _ => False))
        { tmps := tmps.setIfInBounds p (.slice (some ⟨g, 0, none⟩) k k), defers := [] } W) :
    Yields B n f (withRec J D l { state := .ready, pending := none, fn := fn, tmps := tmps, params := #[p], assign := assign, body := body, defers := dd }) l := by
  rintro X c m L g k F W ⟨hj, hl, hD, nl, nD⟩ hg hr hF hXb q
  have hy : (Instr.yield l #[.slice (some ⟨g, 0, none⟩) k k]).run Yba.prog W = .ok (.round l fn (tmps.setIfInBounds p (.slice (some ⟨g, 0, none⟩) k k)) assign body) W := by
    rw [run_yield hl rfl]
    simp
  refine ⟨fn, _, assign, body, hy, roundIn_of_wpIn trivial ?_⟩
  have hgl : g ≠ l := fun e => nl (e ▸ hg)
  refine wpIn_mono (hbody (fun b => X b ∨ b = D ∨ b = l) c m L g k F W q hj (.inl hg) hr hF (.inr (.inr rfl)) (.inr (.inl rfl)) (fun b hb => by rcases hb with hb | hb | hb; exact hXb b hb; exact hb ▸ blk_lt hD; exact hb ▸ blk_lt hl)) ?_
  rintro e a₁ w₁ h
  cases e with
  | normal =>
    obtain ⟨rfl, hb⟩ := h
    refine ⟨_, run_beginRound hl rfl, ?_⟩
    have hlt := blk_lt hl
    have hl2 := World.putObj_heap_same (o := .loop { state := .busy, pending := none, fn := fn, tmps := tmps, params := #[p], assign := assign, body := body, defers := dd }) hlt
    have hc2 : Chg B (fun b => X b ∨ b = D ∨ b = l) w₁ (w₁.putObj l (.loop { state := .busy, pending := none, fn := fn, tmps := tmps, params := #[p], assign := assign, body := body, defers := dd })) :=
      (Chg.refl B _ w₁).putObj hBl (.inl (.inr (.inr rfl))) _
    have hr2 : IRow (w₁.putObj l (.loop { state := .busy, pending := none, fn := fn, tmps := tmps, params := #[p], assign := assign, body := body, defers := dd })) g k F := hr.of_block (World.putObj_heap_other hgl)
    refine wpIn_mono (hb _ (hJ.turn hj hc2) hr2 (by simp)) ?_
    rintro e a₂ w₃ ⟨rfl, hj3, hs3, hz3⟩
    have hl3 := (hs3 l (by simpa using hlt) (.inr (.inr rfl))).trans hl2
    have hD3 := (hs3 D (by simpa using blk_lt hD) (.inr (.inl rfl))).trans ((World.putObj_heap_other hDl).trans hD)
    refine ⟨_, _, run_endRound none hl3, rfl, ⟨?_, ?_, ?_, nl, nD⟩, ?_, ?_⟩
    · exact hJ.turn hj3 ((Chg.refl B _ w₃).putObj hBl (.inl (.inr (.inr rfl))) _)
    · exact World.putObj_heap_same (blk_lt hl3)
    · exact (World.putObj_heap_other hDl).trans hD3
    · intro b hb hX
      have hbl : b ≠ l := fun e => nl (e ▸ hX)
      exact (World.putObj_heap_other hbl).trans ((hs3 b (by simpa using hb) (.inl hX)).trans (World.putObj_heap_other hbl))
    · simpa using hz3
  | exit id => exact h.elim
  | goto t => exact h.elim
  | ret => exact h.elim
  | panic ch => exact h.elim
  | outgrown => exact h.elim

/-- WHAT AN ITERATOR DOES: it comes to c' sets, whatever the invariant. -/
def Iterates (B n f : Nat) (X : Nat → Prop) (c m : Nat) (L : Nat → Int) (c' mm : Nat) (gf : Nat) (lb : Array Value) (w : World) : Prop :=
  ∀ (J' : Inv) (l q : Nat) (W1 : World), Abides B J' → Yields B n f J' l → J' X c m L W1 → (∀ b, b < w.heap.size → W1.heap[b]? = w.heap[b]?) → w.heap.size ≤ W1.heap.size → (∀ b, X b → b < W1.heap.size) →
    CallsIn Fence.wide q Yba.prog gf (#[.func (.yield l) #[] #[]] ++ lb) W1 fun e W' =>
      (∃ v, e = .returned v) ∧ (∃ L', J' X c' mm L' W') ∧ Same X W1 W' ∧ W1.heap.size ≤ W'.heap.size

/-- THE STATEMENT 'for set := range seq { .. }', OUTSIDE EVERY ROUND; its body never leaves. -/
theorem range_law (hJ : Abides B J) {g : Operand} {p : Tmp} {assign body : Code} {Q : Exit → Act → World → Prop} {a : Act} {w : World} {q : Nat} {gf : Nat} {lb : Array Value}
    (hg : a.eval g = .func (.func gf) #[] lb) (eg : ∀ args w, (callFunc gf args).run Yba.prog w = .ok (.enter gf args) w)
    {X : Nat → Prop} {c m c' mm : Nat} {L : Nat → Int} (h0 : J X c m L w) (hX : ∀ b, X b → b < w.heap.size) (hB : B ≤ w.heap.size)
    (hbody : ∀ (l D : Nat) (X : Nat → Prop) (c m : Nat) (L : Nat → Int) (g k : Nat) (F : Nat → Int) (W : World) (q : Nat), J X c m L W → X g → IRow W g k F → Follows n f c m L k F → X l → X D → (∀ b, X b → b < W.heap.size) →
      assign.wpIn (Fence.wide.inRound l) q Yba.prog (Exit.then (fun a₁ w₁ => w₁ = W ∧ ∀ W2, J X c m L W2 → IRow W2 g k F → W.heap.size ≤ W2.heap.size →
        body.wpIn (Fence.wide.inRound l) q Yba.prog (fun e a₂ w₃ => e = .normal ∧ J X (c + 1) k F w₃ ∧ Same X W2 w₃ ∧ W2.heap.size ≤ w₃.heap.size) a₁ W2) (fun _ _ _ => False))
        { tmps := a.tmps.setIfInBounds p (.slice (some ⟨g, 0, none⟩) k k), defers := [] } W)
    (hiter : Iterates B n f X c m L c' mm gf lb w)
    (hdone : ∀ (D : Nat) (L' : Nat → Int) (W : World), w.heap.size ≤ D → J (fun b => X b ∨ b = D ∨ b = D + 1) c' mm L' W → W.heap[D]? = some (.deferred (some [])) → Same X w W → w.heap.size ≤ W.heap.size →
      Q .normal { a with defers := { target := .collected D, args := #[] } :: a.defers } W) :
    (Code.rangeFunc g #[p] assign body).wpIn Fence.wide q Yba.prog Q a w := by
  refine wpIn_rangeFunc ?_
  intro fn hfn
  obtain ⟨rec, hrec⟩ : ∃ rec : LoopState → Option Code → Loop, rec = fun st pe => { state := st, pending := pe, fn := fn, tmps := a.tmps, params := #[p], assign := assign, body := body, defers := w.heap.size } := ⟨_, rfl⟩
  obtain ⟨W1, hW1⟩ : ∃ W1, (w.alloc (.deferred (some []))).alloc (.loop (rec .ready none)) = W1 := ⟨_, rfl⟩
  have hL1 : W1.heap[w.heap.size + 1]? = some (.loop (rec .ready none)) := by
    rw [← hW1]; have := World.alloc_heap_new (w.alloc (.deferred (some []))) (.loop (rec .ready none)); rwa [World.size_alloc] at this
  have hD1 : W1.heap[w.heap.size]? = some (.deferred (some [])) := by
    rw [← hW1]; exact (Below.heap_alloc _ _ _ (by simp)).trans (World.alloc_heap_new w _)
  have hc1 : Chg B (fun b => X b ∨ b = w.heap.size ∨ b = w.heap.size + 1) w W1 := by
    rw [← hW1]; exact ((Chg.refl B _ w).alloc hB _).alloc hB _
  have hz1 : W1.heap.size = w.heap.size + 2 := by rw [← hW1]; simp
  have hj1 : J (fun b => X b ∨ b = w.heap.size ∨ b = w.heap.size + 1) c m L W1 :=
    hJ.turn (hJ.weak h0 (fun b hb => by rcases hb with hb | hb | hb; exact .inl hb; exact .inr (by omega); exact .inr (by omega))) hc1
  have old : ∀ b, b < w.heap.size → W1.heap[b]? = w.heap[b]? := fun b hb => by
    rw [← hW1]; exact (Below.heap_alloc _ _ _ (by simp; omega)).trans (Below.heap_alloc _ _ _ hb)
  refine ⟨w.heap.size + 1, [{ target := .collected w.heap.size, args := #[] }], W1, { target := .fn (.func gf) lb, args := #[.func (.yield (w.heap.size + 1)) #[] #[]] }, W1, gf,
    #[.func (.yield (w.heap.size + 1)) #[] #[]] ++ lb, W1, ?_, ?_, ?_, ?_, fun h => by simp [Fence.wide] at h, ?_⟩
  · rw [← hW1, hrec]; exact run_enterLoop_outer _ _ _ _ _
  · simp only [resolve, hg]
    simp [go_sem]
  · intro f' hf'; trivial
  · simp [invoke, go_sem, eg]
  · refine (hiter (withRec J w.heap.size (w.heap.size + 1) (rec .ready none)) (w.heap.size + 1) (q - 1) W1 (withRec_abides hJ _ _ _) ?_ ⟨hj1, hL1, hD1, fun h => by have := hX _ h; omega, fun h => by have := hX _ h; omega⟩ old (by omega) (fun b hb => by have := hX b hb; omega)).mono ?_
    · rw [hrec]
      exact yields_of hJ hB (by omega) (by omega) (hbody _ _)
    · rintro e W2 ⟨⟨v, rfl⟩, ⟨L', hj2, hl2, hD2, nl, nD⟩, hs2, hz2⟩
      refine ⟨none, W2.putObj (w.heap.size + 1) (.loop { (rec .ready none) with state := .exhausted }), ?_, ?_⟩
      · have := run_endLoop (P := Yba.prog) hl2 (by rw [hrec]; simp)
        rw [this, hrec]
      · have hnl : ∀ b, X b → b ≠ w.heap.size + 1 := fun b hb e => nl (e ▸ hb)
        refine hdone w.heap.size L' _ (Nat.le_refl _) (hJ.turn hj2 ((Chg.refl B _ W2).putObj (by omega) (.inl (.inr (.inr rfl))) _)) ((World.putObj_heap_other (by omega)).trans hD2) (fun b hb hXb => ?_) (by simp; omega)
        exact (World.putObj_heap_other (hnl b hXb)).trans ((hs2 b (by omega) hXb).trans (old b hb))
end Go.Proofs.Ybulkyva
