import Derived.Test.YbulkyvaMarks
namespace Go.Proofs.Ybulkyva
open Go.RowKit
set_option linter.unusedVariables false

/-- WHAT IS KNOWN OF A SLICE OF INTEGERS THAT CAME IN. -/
def IsRow (k : IntKind) (w : World) (a : Option Addr) (len cap : Nat) (zs : List Int) : Prop :=
  (a = none ∧ len = 0 ∧ cap = 0 ∧ zs = []) ∨
  ∃ x, a = some x ∧ len ≤ cap ∧ cap ≤ maxLen ∧ zs.length = cap ∧ (∀ i, i < zs.length → w.cell? (x.add i) = some (.int k (zs.getD i 0))) ∧ ∀ n ∈ zs, (Lit.int k n).wf = true

theorem IsRow.lies {k : IntKind} {w : World} {a : Option Addr} {len cap : Nat} {zs : List Int} (h : IsRow k w a len cap zs) (hp : 0 < len) :
    ∃ b off, a = some ⟨b, off, none⟩ ∧ len ≤ cap ∧ cap ≤ maxLen ∧ zs.length = cap ∧ b < w.heap.size ∧ ∀ j, j < zs.length → w.cell? ⟨b, off + j, none⟩ = some (.int k (zs.getD j 0)) := by
  rcases h with ⟨_, h, _⟩ | ⟨x, rfl, hl, hm, hz, hc, _⟩
  · omega
  · obtain ⟨b, off, rfl, hc'⟩ := ints_at hc (by omega)
    exact ⟨b, off, rfl, hl, hm, hz, World.block_lt_of_cell? w _ (hc' 0 (by omega)), hc'⟩

/-- The numbers of a list by their index. -/
def zf (zs : List Int) (i : Nat) : Int := zs.getD i 0

/-- held and the model, whatever the address of the bits. -/
theorem held_calls (inp st : Value) (fa : Option Addr) (fl fc n : Nat) (Fa : Nat → Bool) (a : Option Addr) (cap : Nat) (zs : List Int) (w W : World) (hf : fl ≤ maxLen) (hn : n ≤ 1024) (h : Marks W fa fl fc n Fa)
    (hr : IsRow .i64 w a n cap zs) (hb : Below w.heap.size w W) :
    Calls Yba.prog 18 #[.agg #[inp, .slice fa fl fc, st], .slice a n cap] W fun e w' =>
      e = .returned (.agg #[.bool (heldB (zf zs) Fa 0 n), .bool (heldB (zf zs) Fa 1 n)]) ∧ Below W.heap.size W w' := by
  by_cases hp : 0 < n
  · obtain ⟨b, off, rfl, h1, hm, hz, hbl, hc⟩ := hr.lies hp
    exact held_some inp st fa fl fc n Fa b off cap _ W hf hn h (Nat.lt_of_lt_of_le hbl hb.size) (fun i hi => (hb.cell (p := ⟨b, off + i, none⟩) hbl).trans (hc i (by omega)))
  · exact held_none inp st fa fl fc Fa a n cap _ W (by omega)

theorem model_calls (fa : Option Addr) (fl fc n : Nat) (Fa : Nat → Bool) (a : Option Addr) (cap : Nat) (zs : List Int) (w W : World) (hf : fl ≤ maxLen) (hn : n ≤ 1024) (h : Marks W fa fl fc n Fa)
    (hr : IsRow .i64 w a n cap zs) (hb : Below w.heap.size w W) :
    Calls Yba.prog 19 #[.slice a n cap, .slice fa fl fc] W fun e w' =>
      e = .returned (.agg #[.bool (heldB (zf zs) Fa 0 n), .bool (heldB (zf zs) Fa 1 n)]) ∧ Below W.heap.size W w' := by
  by_cases hp : 0 < n
  · obtain ⟨b, off, rfl, h1, hm, hz, hbl, hc⟩ := hr.lies hp
    exact model_some fa fl fc n Fa b off cap _ W hf hn h (Nat.lt_of_lt_of_le hbl hb.size) (fun i hi => (hb.cell (p := ⟨b, off + i, none⟩) hbl).trans (hc i (by omega)))
  · exact model_none _ Fa a n cap _ W (by omega)

theorem eql66 (p q : Bool) (w : World) : (binOp .eql 66 (.agg #[.bool p, .bool q]) (.agg #[.bool p, .bool q])).run Yba.prog w = .ok (.bool true) w := by
  cases p <;> cases q <;> kernel_rfl

set_option maxHeartbeats 1000000 in
set_option maxRecDepth 100000 in
theorem exact_in (a : Option Addr) (n cap : Nat) (zs : List Int) (fa : Option Addr) (fl fc : Nat) (bs : Nat → Bool) (w : World) (hn : n ≤ 1024) (hl : fl ≤ 1024) (hr : IsRow .i64 w a n cap zs) (hf : Bools w fa fl fc bs) :
    Calls Yba.prog 5 #[.slice a n cap, .slice fa fl fc] w fun e w' => e = .returned (.bool true) ∧ Below w.heap.size w w' := by
  have hn' : (n : Int) ≤ 1024 := by omega
  have hl' : (fl : Int) ≤ 1024 := by omega
  have he := eql66
  go_enter Yba.func5, Yba.ntmps5
  go_wp2_with fail
  refine (marks_calls n fa fl fc bs w hn hl hf).mono ?_
  rintro e w1 ⟨ga, gl, gc, rfl, hgl, hM, hb1⟩
  have hb1' := hb1.alloc (o := .cells #[.slice none 0 0, .slice ga gl gc, .nilIface] 51) hb1.size
  have hM1 := hM.below (below_one w1 (.cells #[.slice none 0 0, .slice ga gl gc, .nilIface] 51))
  go_wp2_with fail
  refine (held_calls (.slice none 0 0) .nilIface ga gl gc n _ a cap zs w _ hgl hn hM1 hr hb1').mono ?_
  rintro e w2 ⟨rfl, hb2⟩
  go_wp2_with fail
  have hz2 := hb2.size
  simp only [World.size_alloc] at hz2
  have hb2' := (hb1'.trans (hb2.mono (by have := hb1.size; simp; omega))).alloc (o := .cells #[.bool (heldB (zf zs) (inM fl bs) 0 n), .bool (heldB (zf zs) (inM fl bs) 1 n)] 66) (by have := hb1.size; omega)
  have hM2 := (hM1.below hb2).below (below_one w2 (.cells #[.bool (heldB (zf zs) (inM fl bs) 0 n), .bool (heldB (zf zs) (inM fl bs) 1 n)] 66))
  refine (model_calls ga gl gc n _ a cap zs w _ hgl hn hM2 hr hb2').mono ?_
  rintro e w3 ⟨rfl, hb3⟩
  have d0 := (hb3.cell (p := ⟨w2.heap.size, 0, none⟩) (by simp)).trans (show _ = some (.bool (heldB (zf zs) (inM fl bs) 0 n)) by rw [World.cell?_alloc_at _ _ _ _ rfl]; rfl)
  have d1 := (hb3.cell (p := ⟨w2.heap.size, 1, none⟩) (by simp)).trans (show _ = some (.bool (heldB (zf zs) (inM fl bs) 1 n)) by rw [World.cell?_alloc_at _ _ _ _ rfl]; rfl)
  have hz3 : w2.heap.size < w3.heap.size := by have := hb3.size; simp at this; omega
  have nz : ¬ w2.heap.size = w3.heap.size := by omega
  have hfin := (hb2'.trans (hb3.mono (by have := hb1.size; simp; omega))).alloc (o := .cells #[.bool (heldB (zf zs) (inM fl bs) 0 n), .bool (heldB (zf zs) (inM fl bs) 1 n)] 66) (by have := hb1.size; omega)
  generalize heldB (zf zs) (inM fl bs) 0 n = p at *
  generalize heldB (zf zs) (inM fl bs) 1 n = q at *
  clear hM2 hb3 hb2' hM1 hM hb1' hb2
  go_wp2
  go_ret
  exact ⟨rfl, hfin⟩

set_option maxHeartbeats 1000000 in
theorem exact_out (a : Option Addr) (n cap : Nat) (fa : Option Addr) (fl fc : Nat) (w : World) (h : ¬ n ≤ 1024 ∨ (n ≤ 1024 ∧ ¬ fl ≤ 1024)) :
    Calls Yba.prog 5 #[.slice a n cap, .slice fa fl fc] w fun e w' => e = .returned (.bool true) ∧ Below w.heap.size w w' := by
  rcases h with h | ⟨h, h2⟩
  · have hn' : (1024 : Int) < (n : Int) := by omega
    go_enter Yba.func5, Yba.ntmps5
    go_wp2
    go_ret
    exact ⟨rfl, Below.refl _ _⟩
  · have hn' : (n : Int) ≤ 1024 := by omega
    have hl' : (1024 : Int) < (fl : Int) := by omega
    go_enter Yba.func5, Yba.ntmps5
    go_wp2
    go_ret
    exact ⟨rfl, Below.refl _ _⟩

theorem exact_walk (a : Option Addr) (n cap : Nat) (zs : List Int) (fa : Option Addr) (fl fc : Nat) (bs : Nat → Bool) (w : World) (hr : IsRow .i64 w a n cap zs) (hf : Bools w fa fl fc bs) :
    Calls Yba.prog 5 #[.slice a n cap, .slice fa fl fc] w fun e w' => e = .returned (.bool true) ∧ Below w.heap.size w w' := by
  by_cases h1 : n ≤ 1024
  · by_cases h2 : fl ≤ 1024
    · exact exact_in a n cap zs fa fl fc bs w h1 h2 hr hf
    · exact exact_out a n cap fa fl fc w (.inr ⟨h1, h2⟩)
  · exact exact_out a n cap fa fl fc w (.inl h1)
end Go.Proofs.Ybulkyva
