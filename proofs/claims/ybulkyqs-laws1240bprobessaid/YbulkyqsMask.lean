import Derived.Test.YbulkyqsRows
import Derived.WalkKit
import Derived.Deep.OwnRows
import Derived.OpenShut
namespace Go.Proofs.Ybulkyqs
open Go.RowKit
set_option linter.unusedVariables false

theorem Yba.info5 : (Yba.prog.info? 5).map (fun i => (i.zero, i.size, i.bytes)) = some (some (.int .u8 0), 1, 1) := by kernel_rfl

/-- The mask's byte i: the given one, or 0 behind its end. -/
def maskAt (z : List Int) (len : Nat) (i : Nat) : Int := if i < len then z.getD i 0 else 0
/-- What the mask's row holds when k rounds are done. -/
def maskTo (z : List Int) (len k : Nat) (j : Nat) : Value := .int .u8 (if j < k then maskAt z len j else 0)

theorem maskTo_step (z : List Int) (len k : Nat) (h : k < len) : (fun j => if j = k then Value.int .u8 (z.getD k 0) else maskTo z len k j) = maskTo z len (k + 1) := by
  funext j
  unfold maskTo maskAt
  by_cases e : j = k
  · subst e; simp [h]
  · simp only [e, if_false]
    by_cases h2 : j < k
    · simp [h2, show j < k + 1 by omega]
    · simp [h2, show ¬ j < k + 1 by omega]
theorem maskTo_skip (z : List Int) (len k : Nat) (h : ¬ k < len) : maskTo z len k = maskTo z len (k + 1) := by
  funext j
  unfold maskTo maskAt
  by_cases e : j = k
  · subst e; simp [h]
  · by_cases h2 : j < k
    · simp [h2, show j < k + 1 by omega]
    · simp [h2, show ¬ j < k + 1 by omega]

theorem below_one (w : World) (o : Obj) : Below w.heap.size w (w.alloc o) := (Below.refl _ _).alloc (Nat.le_refl _) o

theorem row_made (w : World) (z : List Int) (len n : Nat) : (w.alloc (.cells (madeCells #[Value.int .u8 0] n) 5)).rowIs w.heap.size 5 n (maskTo z len 0) :=
  (World.rowIs_made w (.int .u8 0) n 5).congr (fun i _ => by simp [maskTo])

theorem row_end {w : World} {z : List Int} {g n len : Nat} (h : w.rowIs g 5 n (maskTo z len n)) : w.rowIs g 5 n (fun j => .int .u8 (maskAt z len j)) :=
  h.congr (fun i hi => by simp [maskTo, hi])

set_option maxHeartbeats 1000000 in
set_option maxRecDepth 100000 in
theorem mask_any (a0 : Option Addr) (len0 cap0 : Nat) (b off len1 cap1 : Nat) (z1 : List Int) (w : World) (h0 : len0 ≤ 1024) (h1 : len1 ≤ maxLen) (hz : len1 ≤ z1.length) (hb : b < w.heap.size)
    (hc : ∀ j, j < z1.length → w.cell? ⟨b, off + j, none⟩ = some (.int .u8 (z1.getD j 0))) :
    Calls Yba.prog 7 #[.slice a0 len0 cap0, .slice (some ⟨b, off, none⟩) len1 cap1] w fun e w' =>
      e = .returned (.slice (some ⟨w.heap.size, 0, none⟩) len0 len0) ∧ w'.rowIs w.heap.size 5 len0 (fun j => .int .u8 (maskAt z1 len1 j)) ∧ Below w.heap.size w w' ∧ w'.heap.size = w.heap.size + 1 := by
  unfold maxLen at h1
  have hmk := fun w => run_make_row' (P := Yba.prog) 22 5 (.int .u8 0) 1 Yba.underlying22 Yba.info5 rfl .i64 .i64 len0 (by omega) (by omega) w
  go_enter Yba.func7, Yba.ntmps7
  go_wp2
  clear hmk
  go_loopw [12] (fun i wr => ∃ k : Nat, k ≤ len0 ∧ i = .int .i64 k ∧ wr.rowIs w.heap.size 5 len0 (maskTo z1 len1 k) ∧ Below w.heap.size w wr ∧ wr.heap.size = w.heap.size + 1) (fun i _ => len0 - (intOf i).toNat)
  case atStart => exact ⟨0, Nat.zero_le _, rfl, row_made _ _ _ _, below_one _ _, by simp⟩
  case round =>
    obtain ⟨k, hk, rfl, hr, hnx, hs⟩ := hrel
    by_cases hlt : k < len0
    · have hcx := (hnx.cell (p := ⟨b, off + k, none⟩) hb)
      have hck := hr.cell hlt
      have hfk := hr.frozen k
      by_cases hl : k < len1
      · have hcz := hcx.trans (hc k (by omega))
        clear hcx hc
        go_wp2
        go_roundw
        case rel => exact ⟨k + 1, by omega, by go_num, by rw [← maskTo_step _ _ _ hl]; exact hr.set k _, hnx.setCell (Nat.le_refl _) _, by simpa using hs⟩
        case measure => simp [intOf]; omega
      · clear hcx hc
        go_wp2
        go_roundw
        case rel => exact ⟨k + 1, by omega, by go_num, by rw [← maskTo_skip _ _ _ hl]; exact hr, hnx, hs⟩
        case measure => simp [intOf]; omega
    · obtain rfl : k = len0 := by omega
      go_wp2
      go_ret
      exact ⟨rfl, row_end hr, hnx, hs⟩

set_option maxHeartbeats 1000000 in
set_option maxRecDepth 100000 in
theorem mask_empty (a0 : Option Addr) (len0 cap0 : Nat) (a1 : Option Addr) (cap1 : Nat) (z1 : List Int) (w : World) (h0 : len0 ≤ 1024) :
    Calls Yba.prog 7 #[.slice a0 len0 cap0, .slice a1 0 cap1] w fun e w' =>
      e = .returned (.slice (some ⟨w.heap.size, 0, none⟩) len0 len0) ∧ w'.rowIs w.heap.size 5 len0 (fun j => .int .u8 (maskAt z1 0 j)) ∧ Below w.heap.size w w' ∧ w'.heap.size = w.heap.size + 1 := by
  have hmk := fun w => run_make_row' (P := Yba.prog) 22 5 (.int .u8 0) 1 Yba.underlying22 Yba.info5 rfl .i64 .i64 len0 (by omega) (by omega) w
  go_enter Yba.func7, Yba.ntmps7
  go_wp2
  clear hmk
  go_loopw [12] (fun i wr => ∃ k : Nat, k ≤ len0 ∧ i = .int .i64 k ∧ wr.rowIs w.heap.size 5 len0 (maskTo z1 0 k) ∧ Below w.heap.size w wr ∧ wr.heap.size = w.heap.size + 1) (fun i _ => len0 - (intOf i).toNat)
  case atStart => exact ⟨0, Nat.zero_le _, rfl, row_made _ _ _ _, below_one _ _, by simp⟩
  case round =>
    obtain ⟨k, hk, rfl, hr, hnx, hs⟩ := hrel
    by_cases hlt : k < len0
    · go_wp2
      go_roundw
      case rel => exact ⟨k + 1, by omega, by go_num, by rw [← maskTo_skip _ _ _ (by omega)]; exact hr, hnx, hs⟩
      case measure => simp [intOf]; omega
    · obtain rfl : k = len0 := by omega
      go_wp2
      go_ret
      exact ⟨rfl, row_end hr, hnx, hs⟩

/-- WHAT IS KNOWN OF A SLICE OF BYTES THAT CAME IN (the shell's 'IsRow' at the kind .u8). -/
def IsRow (k : IntKind) (w : World) (a : Option Addr) (len cap : Nat) (zs : List Int) : Prop :=
  (a = none ∧ len = 0 ∧ cap = 0 ∧ zs = []) ∨
  ∃ x, a = some x ∧ len ≤ cap ∧ cap ≤ maxLen ∧ zs.length = cap ∧ (∀ i, i < zs.length → w.cell? (x.add i) = some (.int k (zs.getD i 0))) ∧ ∀ n ∈ zs, (Lit.int k n).wf = true

/-- A row with an element: its address, its cells. -/
theorem IsRow.lies {k : IntKind} {w : World} {a : Option Addr} {len cap : Nat} {zs : List Int} (h : IsRow k w a len cap zs) (hp : 0 < len) :
    ∃ b off, a = some ⟨b, off, none⟩ ∧ len ≤ cap ∧ cap ≤ maxLen ∧ zs.length = cap ∧ b < w.heap.size ∧ ∀ j, j < zs.length → w.cell? ⟨b, off + j, none⟩ = some (.int k (zs.getD j 0)) := by
  rcases h with ⟨_, h, _⟩ | ⟨x, rfl, hl, hm, hz, hc, _⟩
  · omega
  · obtain ⟨b, off, rfl, hc'⟩ := ints_at hc (by omega)
    exact ⟨b, off, rfl, hl, hm, hz, World.block_lt_of_cell? w _ (hc' 0 (by omega)), hc'⟩

theorem mask_calls (a0 : Option Addr) (len0 cap0 : Nat) (a1 : Option Addr) (len1 cap1 : Nat) (z1 : List Int) (w : World) (h0 : len0 ≤ 1024) (h1 : IsRow .u8 w a1 len1 cap1 z1) :
    Calls Yba.prog 7 #[.slice a0 len0 cap0, .slice a1 len1 cap1] w fun e w' =>
      e = .returned (.slice (some ⟨w.heap.size, 0, none⟩) len0 len0) ∧ w'.rowIs w.heap.size 5 len0 (fun j => .int .u8 (maskAt z1 len1 j)) ∧ Below w.heap.size w w' ∧ w'.heap.size = w.heap.size + 1 := by
  by_cases hp : 0 < len1
  · obtain ⟨b, off, rfl, hl, hm, hz, hb, hc⟩ := h1.lies hp
    exact mask_any a0 len0 cap0 b off len1 cap1 z1 w h0 (by omega) (by omega) hb hc
  · obtain rfl : len1 = 0 := by omega
    exact mask_empty a0 len0 cap0 a1 cap1 z1 w h0
end Go.Proofs.Ybulkyqs
