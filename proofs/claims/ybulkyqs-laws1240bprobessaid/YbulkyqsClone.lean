import Derived.Test.YbulkyqsMask
import Derived.WalkSpells
namespace Go.Proofs.Ybulkyqs
open Go.RowKit
set_option linter.unusedVariables false

/-- The cells of n bytes. -/
def bcells (n : Nat) (f : Nat → Int) : List Value := (List.range n).map (fun j => .int .u8 (f j))
theorem length_bcells (n : Nat) (f : Nat → Int) : (bcells n f).length = n := by simp [bcells]
theorem bcells_get {n : Nat} {f : Nat → Int} {j : Nat} {u : Value} (h : (bcells n f)[j]? = some u) : j < n ∧ u = .int .u8 (f j) := by
  have hj : j < n := by have := (List.getElem?_eq_some_iff.1 h).1; simpa [bcells] using this
  simp [bcells, hj] at h
  exact ⟨hj, h.symm⟩
theorem bcells_one {n : Nat} {f : Nat → Int} : ∀ u ∈ bcells n f, u.oneCell' = true := by
  intro u hu
  obtain ⟨j, _, rfl⟩ := List.mem_map.1 hu
  rfl

set_option maxHeartbeats 1000000 in
set_option maxRecDepth 100000 in
theorem clone_own (g n : Nat) (f : Nat → Int) (w : World) (hn : n ≤ 1024) (hr : w.rowIs g 5 n (fun j => .int .u8 (f j))) :
    Calls Yba.prog 14 #[.slice (some ⟨g, 0, none⟩) n n] w fun e w' =>
      ∃ v, e = .returned v ∧ v ≠ .slice none 0 0 ∧ Below w.heap.size w w' ∧ w'.ownsRow w.heap.size 5 1 v n (bcells n f) := by
  have hnil := fun (w : World) (a : Option Addr) (n c : Nat) => Lib.run_eql_slice_nil (P := Yba.prog) w 22 5 a n c 0 0 Yba.underlying22
  obtain ⟨i0, hi, hz0, hz1, hz2⟩ := info_parts Yba.info5
  have hown : (w.alloc (.cells #[] 5)).ownsRow w.heap.size 5 1 (.slice (some ⟨w.heap.size, 0, none⟩) 0 0) 0 [] := World.ownsRow_made w #[] 0 (Nat.le_refl _) (by simp [maxLen]) (by simp)
  go_enter Yba.func14, Yba.ntmps14
  go_wp2_with (at_builtin; refine wpList_append_own _ rfl _ _ 22 rfl w.heap.size 5 i0 (.int .u8 0) 1 1 Yba.underlying22 hi hz0 hz1 hz2 rfl (by decide) _ _ _ rfl hown ⟨g, 0, none⟩ n n (bcells n f) rfl (by simp [bcells]) ?c1 bcells_one ?c3 ?c4 ?c5 ?_)
  case c1 =>
    intro j u hu
    obtain ⟨hj, rfl⟩ := bcells_get hu
    rw [Addr.add_lit, Nat.zero_add]
    exact (hr.alloc _).cell hj
  case c3 => unfold maxLen; omega
  case c4 => omega
  case c5 => simp
  intro v' w1 hown' hgrow hnil'
  clear hown hr
  have hv : v' ≠ .slice none 0 0 := hnil'
  clear hnil'
  go_wp2
  go_ret
  exact ⟨v', rfl, hv, (below_one _ _).grown hgrow (by simp) (fun k h => by simp [Value.ownBlock] at h; omega), by simpa using hown'⟩

theorem clone_calls (g n : Nat) (f : Nat → Int) (w : World) (hn : n ≤ 1024) (hr : w.rowIs g 5 n (fun j => .int .u8 (f j))) :
    Calls Yba.prog 14 #[.slice (some ⟨g, 0, none⟩) n n] w fun e w' =>
      ∃ g' cap', e = .returned (.slice (some ⟨g', 0, none⟩) n cap') ∧ w.heap.size ≤ g' ∧ Below w.heap.size w w' ∧ w'.ownsRow w.heap.size 5 1 (.slice (some ⟨g', 0, none⟩) n cap') n (bcells n f) := by
  refine (clone_own g n f w hn hr).mono ?_
  rintro e w' ⟨v, rfl, hv, hb, ho⟩
  have ho' := ho
  rcases ho.2 with ⟨h, _⟩ | ⟨g', cap', cur, rfl, hg, _⟩
  · exact absurd h hv
  · exact ⟨g', cap', rfl, hg, hb, ho'⟩
end Go.Proofs.Ybulkyqs
