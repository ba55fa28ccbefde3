import Derived.Test.YbulkyvaRows
import Derived.WalkKit
import Derived.WalkSpells
import Derived.WalkSmall
import Derived.Deep.OwnRows
import Derived.OpenShut
import Derived.BigQuiet
import Derived.Deep.QuietTactic
namespace Go.Proofs.Ybulkyva
open Go.RowKit
set_option linter.unusedVariables false

theorem below_one (w : World) (o : Obj) : Below w.heap.size w (w.alloc o) := (Below.refl _ _).alloc (Nat.le_refl _) o

/-- The faulty marks: none; or a row that lies there. 'n': how many are told of. -/
def Marks (W : World) (fa : Option Addr) (fl fc n : Nat) (Fa : Nat → Bool) : Prop :=
  (fa = none ∧ fl = 0 ∧ fc = 0 ∧ ∀ i, Fa i = false) ∨ ∃ b o, fa = some ⟨b, o, none⟩ ∧ n ≤ fl ∧ b < W.heap.size ∧ ∀ i, i < n → W.cell? ⟨b, o + i, none⟩ = some (.bool (Fa i))

theorem Marks.below {W W' : World} {fa : Option Addr} {fl fc n : Nat} {Fa : Nat → Bool} (h : Marks W fa fl fc n Fa) (hb : Below W.heap.size W W') : Marks W' fa fl fc n Fa := by
  rcases h with h | ⟨b, o, rfl, hn, hl, hc⟩
  · exact .inl h
  · exact .inr ⟨b, o, rfl, hn, Nat.lt_of_lt_of_le hl hb.size, fun i hi => (hb.cell (p := ⟨b, o + i, none⟩) hl).trans (hc i hi)⟩

set_option maxHeartbeats 1000000 in
theorem faulty_calls (inp st : Value) (fa : Option Addr) (fl fc n : Nat) (Fa : Nat → Bool) (v : Nat) (w : World) (hv : v < n) (hf : fl ≤ maxLen) (h : Marks w fa fl fc n Fa) :
    Calls Yba.prog 26 #[.agg #[inp, .slice fa fl fc, st], .int .i64 v] w fun e w' => e = .returned (.bool (Fa v)) ∧ Below w.heap.size w w' := by
  have hnil := fun (w : World) (a : Option Addr) (n c : Nat) => run_neq_slice_nil_any (P := Yba.prog) w 44 4 a n c 0 0 Yba.underlying44
  unfold maxLen at hf
  rcases h with ⟨rfl, rfl, rfl, h⟩ | ⟨b, o, rfl, hn, hl, hc⟩
  · rw [h v]
    clear h
    go_enter Yba.func26, Yba.ntmps26
    go_wp2
    go_ret
    exact ⟨rfl, below_one _ _⟩
  · have c := hc v hv
    have nb : ¬ b = w.heap.size := by omega
    go_enter Yba.func26, Yba.ntmps26
    go_wp2
    go_ret
    exact ⟨rfl, below_one _ _⟩
end Go.Proofs.Ybulkyva
