import Derived.Test.YbulkytyLaw
import Derived.ProofKit
import Derived.Deep.Slices
namespace Go.Proofs.Ybulkyty
open Go.ChangeShapes Go.WideShapes Go.ChangeAt Go.RowKit
set_option linter.unusedVariables false

theorem Yba.cells25 : Yba.prog.cellsOf 25 = 2 := by kernel_rfl
theorem Yba.cells4 : Yba.prog.cellsOf 4 = 1 := by kernel_rfl
theorem Yba.cells23 : Yba.prog.cellsOf 23 = 1 := by kernel_rfl
theorem Yba.cells5 : Yba.prog.cellsOf 5 = 1 := by kernel_rfl

/-- A slice of bytes that is read. -/
theorem open_text {H : Type} {enc : TypeId × Value → H} {W : World} {fuel : Nat} {v : Value} {x : DataW H × List MemPlace} (h : DataW.trod enc Yba.prog W 0 (fun _ => true) true fuel 23 [v] = some x) :
    ∃ a l c z, v = .slice a l c ∧ IsRow .u8 W a l c z := by
  rcases open_ints Yba.underlying23 Yba.underlying5 Yba.cells5 h with ⟨hcs, _⟩ | ⟨a, l, c, zs, hcs, _, hl, hm, hz, _, hcell, hwz⟩
  · simp at hcs
    exact ⟨none, 0, 0, [], hcs, .inl ⟨rfl, rfl, rfl, rfl⟩⟩
  · simp at hcs
    exact ⟨some a, l, c, zs, hcs, .inr ⟨_, rfl, hl, hm, by simpa using hz, hcell, hwz⟩⟩

/-- One call of the script. -/
structure Rec where
  n : Bool
  a : Option Addr
  l : Nat
  c : Nat
  z : List Int

theorem choose_rec {n : Nat} {p : Nat → Rec → Prop} (h : ∀ i, i < n → ∃ x, p i x) : ∃ f : Nat → Rec, ∀ i, i < n → p i (f i) := by
  classical
  refine ⟨fun i => if hi : i < n then Classical.choose (h i hi) else ⟨false, none, 0, 0, []⟩, fun i hi => ?_⟩
  simp only [dif_pos hi]
  exact Classical.choose_spec (h i hi)

theorem open_ops {H : Type} {enc : TypeId × Value → H} {W : World} {fuel : Nat} {a : Option Addr} {len cap : Nat} {x : DataW H × List MemPlace} (h : DataW.trod enc Yba.prog W 0 (fun _ => true) true fuel 22 [.slice a len cap] = some x) :
    len ≤ 0 ∨ ∃ (b off : Nat) (f : Nat → Rec), a = some ⟨b, off, none⟩ ∧ IsOps W b off len (fun i => (f i).n) (fun i => (f i).a) (fun i => (f i).l) (fun i => (f i).c) (fun i => (f i).z) := by
  rcases Deep.open_slice Yba.underlying22 h with ⟨hcs, _⟩ | ⟨ad, len', cap', m, n, D, Pl, hcs, _, hl, hm, hmm, _, hx⟩
  · simp at hcs
    left
    omega
  · simp at hcs
    obtain ⟨rfl, rfl, rfl⟩ := hcs
    by_cases hp : 0 < len
    · right
      simp only [if_true] at hmm
      subst hmm
      rw [Yba.cells25] at hx
      have each : ∀ i, i < len → ∃ r : Rec, W.cell? (ad.add (i * 2)) = some (.bool r.n) ∧ W.cell? ((ad.add (i * 2)).add 1) = some (.slice r.a r.l r.c) ∧ IsRow .u8 W r.a r.l r.c r.z := by
        intro i hi
        obtain ⟨cs', h1, h2⟩ := hx i (by omega)
        obtain ⟨_, hlen, hc⟩ := World.cells?_some h1
        obtain ⟨y0, y1, n', _, _, g0, g1⟩ := trod_struct2 Yba.underlying25 h2
        match cs', hlen with
        | [c0, c1], _ =>
          rw [Yba.cells4] at g0
          rw [Yba.cells23] at g1
          obtain ⟨nb, e0, _⟩ := DataW.trod_bool (by kernel_rfl) g0
          obtain ⟨a1, l1, c1', z1, e1, hrow⟩ := open_text g1
          simp at e0
          have k0 := hc 0 (by omega)
          have k1 := hc 1 (by omega)
          simp [Addr.add] at k0
          refine ⟨⟨nb, a1, l1, c1', z1⟩, ?_, ?_, hrow⟩
          · have : (ad.add (i * 2)).add 0 = ad.add (i * 2) := by simp [Addr.add]
            rw [← this, hc 0 (by omega), e0]
            rfl
          · rw [k1, e1]
            rfl
      obtain ⟨f, hf⟩ := choose_rec each
      obtain ⟨b, off, spot⟩ := ad
      have hspot : spot = none := by
        have := (hf 0 hp).1
        simpa [Addr.add] using World.cell?_spot this
      subst hspot
      refine ⟨b, off, f, rfl, fun i hi => ?_, fun i hi => ?_, fun i hi => (hf i hi).2.2, ?_⟩
      · have := (hf i hi).1
        rw [Addr.add_lit] at this
        exact this
      · have := (hf i hi).2.1
        rw [Addr.add_lit, Addr.add_lit] at this
        exact this
      · have := (hf 0 hp).1
        rw [Addr.add_lit] at this
        exact World.block_lt_of_cell? W _ this
    · left
      omega

theorem script_walk {H : Type} {enc : TypeId × Value → H} {W : World} {fuel : Nat} {a : Option Addr} {len cap : Nat} {x : DataW H × List MemPlace} (h : DataW.trod enc Yba.prog W 0 (fun _ => true) true fuel 22 [.slice a len cap] = some x) :
    Calls Yba.prog 3 #[.slice a len cap] W fun e w' => e = .returned (.bool true) ∧ Below W.heap.size W w' := by
  by_cases hl : len ≤ 256
  · rcases open_ops h with h0 | ⟨b, off, f, rfl, ho⟩
    · exact script_none a len cap W h0
    · exact script_some b off len cap _ _ _ _ _ W hl ho
  · exact script_large a len cap W hl
end Go.Proofs.Ybulkyty
