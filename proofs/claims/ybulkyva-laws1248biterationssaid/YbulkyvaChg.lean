import Derived.Test.YbulkyvaNoFaulty
import Derived.RangeFuncNested
import Derived.RangeFuncBound
namespace Go.Proofs.Ybulkyva
open Go.RowKit
set_option linter.unusedVariables false

/-- FROM W TO W': of what lay in W, only blocks of X have turned; nothing below B. -/
structure Chg (B : Nat) (X : Nat → Prop) (W W' : World) : Prop where
  below : Below B W W'
  same : ∀ b, b < W.heap.size → ¬ X b → W'.heap[b]? = W.heap[b]?

section
variable {B : Nat} {X Y : Nat → Prop} {W W' W'' : World}
theorem Chg.size (h : Chg B X W W') : W.heap.size ≤ W'.heap.size := h.below.size
theorem Chg.refl (B : Nat) (X : Nat → Prop) (W : World) : Chg B X W W := ⟨Below.refl _ _, fun _ _ _ => rfl⟩
theorem Chg.trans (h : Chg B X W W') (k : Chg B X W' W'') : Chg B X W W'' :=
  ⟨h.below.trans k.below, fun b hb hx => (k.same b (Nat.lt_of_lt_of_le hb h.size) hx).trans (h.same b hb hx)⟩
theorem Chg.mono (h : Chg B X W W') (hX : ∀ b, X b → Y b) : Chg B Y W W' := ⟨h.below, fun b hb hy => h.same b hb (fun hx => hy (hX b hx))⟩
/-- What is laid since may turn besides. -/
theorem Chg.trans_new (h : Chg B X W W') (k : Chg B Y W' W'') (hY : ∀ b, Y b → X b ∨ W.heap.size ≤ b) : Chg B X W W'' :=
  ⟨h.below.trans k.below, fun b hb hx => (k.same b (Nat.lt_of_lt_of_le hb h.size) (fun hy => (hY b hy).elim hx (fun h => by omega))).trans (h.same b hb hx)⟩
theorem Chg.of_below (h : Below W.heap.size W W') (hB : B ≤ W.heap.size) : Chg B X W W' := ⟨h.mono hB, fun b hb _ => h.block b hb⟩
theorem Chg.alloc (h : Chg B X W W') (hB : B ≤ W.heap.size) (o : Obj) : Chg B X W (W'.alloc o) :=
  ⟨h.below.alloc (Nat.le_trans hB h.size) o, fun b hb hx => (Below.heap_alloc _ _ _ (Nat.lt_of_lt_of_le hb h.size)).trans (h.same b hb hx)⟩
theorem Chg.setCell (h : Chg B X W W') {p : Addr} (hp : B ≤ p.block) (hX : X p.block ∨ W.heap.size ≤ p.block) (u : Value) : Chg B X W (W'.setCell p u) :=
  ⟨h.below.setCell hp u, fun b hb hx => (Below.heap_setCell _ _ _ _ (fun e => hX.elim (fun k => hx (by rw [e]; exact k)) (fun k => by omega))).trans (h.same b hb hx)⟩
theorem Chg.drew (h : Chg B X W W') : Chg B X W W'.drew := ⟨h.below.drew, h.same⟩
theorem Chg.drewN (h : Chg B X W W') (k : Nat) : Chg B X W (W'.drewN k) := ⟨below_drewN h.below k, h.same⟩
theorem below_putObj (B : Nat) (W : World) (r : Nat) (o : Obj) (hB : B ≤ r) : Below B W (W.putObj r o) :=
  ⟨rfl, rfl, rfl, by simp, fun k hk => World.putObj_heap_other (by omega)⟩
theorem Chg.putObj (h : Chg B X W W') {r : Nat} (hr : B ≤ r) (hX : X r ∨ W.heap.size ≤ r) (o : Obj) : Chg B X W (W'.putObj r o) :=
  ⟨h.below.trans (below_putObj _ _ _ _ hr), fun b hb hx => (World.putObj_heap_other (fun e => hX.elim (fun k => hx (by rw [e]; exact k)) (fun k => by omega))).trans (h.same b hb hx)⟩
end

/-- A row of n numbers of its own (room beyond it or not). -/
def IRow (W : World) (g n : Nat) (f : Nat → Int) : Prop := ∃ c F, n ≤ c ∧ W.rowIs g 3 c F ∧ ∀ i, i < n → F i = .int .i64 (f i)

section
variable {W W' : World} {g n : Nat} {f f' : Nat → Int}
theorem IRow.cell (h : IRow W g n f) {i : Nat} (hi : i < n) : W.cell? ⟨g, i, none⟩ = some (.int .i64 (f i)) := by
  obtain ⟨c, F, hc, hr, hF⟩ := h
  rw [hr.cell (by omega), hF i hi]
theorem IRow.frozen (h : IRow W g n f) (i : Nat) : W.frozen? ⟨g, i, none⟩ = false := by obtain ⟨c, F, hc, hr, hF⟩ := h; exact hr.frozen i
theorem IRow.lt (h : IRow W g n f) : g < W.heap.size := by obtain ⟨c, F, hc, hr, hF⟩ := h; exact hr.lt
theorem IRow.of_block (h : IRow W g n f) (e : W'.heap[g]? = W.heap[g]?) : IRow W' g n f := by obtain ⟨c, F, hc, hr, hF⟩ := h; exact ⟨c, F, hc, hr.of_block e, hF⟩
theorem IRow.congr (h : IRow W g n f) (e : ∀ i, i < n → f i = f' i) : IRow W g n f' := by obtain ⟨c, F, hc, hr, hF⟩ := h; exact ⟨c, F, hc, hr, fun i hi => by rw [hF i hi, e i hi]⟩
theorem IRow.set (h : IRow W g n f) (i : Nat) (z : Int) : IRow (W.setCell ⟨g, i, none⟩ (.int .i64 z)) g n (fun j => if j = i then z else f j) := by
  obtain ⟨c, F, hc, hr, hF⟩ := h
  refine ⟨c, _, hc, hr.set i _, fun j hj => ?_⟩
  by_cases e : j = i
  · simp [e]
  · simp [e, hF j hj]
theorem IRow.other (h : IRow W g n f) {a : Addr} (ha : g ≠ a.block) (v : Value) : IRow (W.setCell a v) g n f := h.of_block (Below.heap_setCell _ _ _ _ ha)
theorem IRow.alloc (h : IRow W g n f) (o : Obj) : IRow (W.alloc o) g n f := h.of_block (Below.heap_alloc _ _ _ h.lt)
theorem IRow.below (h : IRow W g n f) (hb : Below W.heap.size W W') : IRow W' g n f := h.of_block (hb.block _ h.lt)
theorem IRow.of_rowIs {c : Nat} (h : W.rowIs g 3 c (fun i => .int .i64 (f i))) (hn : n ≤ c) : IRow W g n f := ⟨c, _, hn, h, fun _ _ => rfl⟩
end

/-- A slice of n numbers: n is nothing, or it is a row of its own, of block g. -/
def Sl (W : World) (a : Option Addr) (n g : Nat) (f : Nat → Int) : Prop := n = 0 ∨ (a = some ⟨g, 0, none⟩ ∧ IRow W g n f)
theorem Sl.of_block {W W' : World} {a : Option Addr} {n g : Nat} {f : Nat → Int} (h : Sl W a n g f) (e : 0 < n → W'.heap[g]? = W.heap[g]?) : Sl W' a n g f := by
  rcases h with h | ⟨rfl, h⟩
  · exact .inl h
  · by_cases hn : n = 0
    · exact .inl hn
    · exact .inr ⟨rfl, h.of_block (e (by omega))⟩
theorem Sl.row {W : World} {a : Option Addr} {n g : Nat} {f : Nat → Int} (h : Sl W a n g f) (hn : 0 < n) : a = some ⟨g, 0, none⟩ ∧ IRow W g n f := h.resolve_left (by omega)
theorem Sl.below {W W' : World} {a : Option Addr} {n g : Nat} {f : Nat → Int} (h : Sl W a n g f) (hb : Below W.heap.size W W') : Sl W' a n g f := by
  rcases h with h | ⟨rfl, h⟩
  · exact .inl h
  · exact .inr ⟨rfl, h.below hb⟩
theorem Sl.lt {W : World} {a : Option Addr} {n g : Nat} {f : Nat → Int} (h : Sl W a n g f) (hn : 0 < n) : g < W.heap.size := (h.row hn).2.lt
theorem Sl.congr {W : World} {a : Option Addr} {n g : Nat} {f f' : Nat → Int} (h : Sl W a n g f) (e : ∀ i, i < n → f i = f' i) : Sl W a n g f' := by
  rcases h with h | ⟨rfl, h⟩
  · exact .inl h
  · exact .inr ⟨rfl, h.congr e⟩
end Go.Proofs.Ybulkyva
