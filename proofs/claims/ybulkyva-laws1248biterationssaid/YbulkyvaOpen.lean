import Derived.Test.YbulkyvaExact
import Derived.ProofKit
import Derived.Deep.Slices
namespace Go.Proofs.Ybulkyva
open Go.ChangeShapes Go.WideShapes Go.ChangeAt Go.RowKit
set_option linter.unusedVariables false

theorem open_bools {H : Type} {enc : TypeId × Value → H} {W : World} {fuel : Nat} {a : Option Addr} {l c : Nat} {x : DataW H × List MemPlace} (h : DataW.trod enc Yba.prog W 0 (fun _ => true) true fuel 44 [.slice a l c] = some x) :
    ∃ bs : Nat → Bool, Bools W a l c bs := by
  rcases Deep.open_slice1 Yba.underlying44 (by kernel_rfl) h with ⟨hcs, _⟩ | ⟨ad, len', cap', m, n, V, D, Pl, hcs, _, hl, hm, hmm, _, hx⟩
  · simp at hcs
    exact ⟨fun _ => false, .inl hcs⟩
  · simp at hcs
    obtain ⟨rfl, rfl, rfl⟩ := hcs
    simp only [if_true] at hmm
    subst hmm
    have each : ∀ i, i < l → ∃ b : Bool, W.cell? (ad.add i) = some (.bool b) := by
      intro i hi
      obtain ⟨h1, h2⟩ := hx i (by omega)
      obtain ⟨b, e, _⟩ := DataW.trod_bool (by kernel_rfl) h2
      simp at e
      exact ⟨b, by rw [h1, e]⟩
    obtain ⟨f, hf⟩ := Deep.choose_lt each
    exact ⟨f, .inr ⟨ad, rfl, hl, hm, hf⟩⟩

theorem open_row {H : Type} {enc : TypeId × Value → H} {W : World} {fuel : Nat} {a : Option Addr} {l c : Nat} {x : DataW H × List MemPlace} (h : DataW.trod enc Yba.prog W 0 (fun _ => true) true fuel 30 [.slice a l c] = some x) :
    ∃ zs, IsRow .i64 W a l c zs := by
  rcases open_ints Yba.underlying30 Yba.underlying3 (by kernel_rfl) h with ⟨hcs, _⟩ | ⟨x, l', c', zs, hcs, _, hl, hm, hz, _, hcell, hwz⟩
  · simp at hcs
    obtain ⟨rfl, rfl, rfl⟩ := hcs
    exact ⟨[], .inl ⟨rfl, rfl, rfl, rfl⟩⟩
  · simp at hcs
    obtain ⟨rfl, rfl, rfl⟩ := hcs
    exact ⟨zs, .inr ⟨_, rfl, hl, hm, by simpa using hz, hcell, hwz⟩⟩
end Go.Proofs.Ybulkyva
