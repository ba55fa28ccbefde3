import Derived.Test.YbulkytyRows
import Derived.WalkKit
import Derived.WalkSpells
import Derived.WalkSmall
import Derived.Deep.OwnRows
import Derived.OpenShut
namespace Go.Proofs.Ybulkyty
open Go.RowKit
set_option linter.unusedVariables false

/-- WHAT IS KNOWN OF A SLICE OF BYTES: it is nil; or it leads to a row of 'cap' cells, the numbers 'zs'. -/
def IsRow (k : IntKind) (w : World) (a : Option Addr) (len cap : Nat) (zs : List Int) : Prop :=
  (a = none ∧ len = 0 ∧ cap = 0 ∧ zs = []) ∨
  ∃ x, a = some x ∧ len ≤ cap ∧ cap ≤ maxLen ∧ zs.length = cap ∧ (∀ i, i < zs.length → w.cell? (x.add i) = some (.int k (zs.getD i 0))) ∧ ∀ n ∈ zs, (Lit.int k n).wf = true

theorem IsRow.lies {k : IntKind} {w : World} {a : Option Addr} {len cap : Nat} {zs : List Int} (h : IsRow k w a len cap zs) (hp : 0 < len) :
    ∃ b off, a = some ⟨b, off, none⟩ ∧ len ≤ cap ∧ cap ≤ maxLen ∧ zs.length = cap ∧ b < w.heap.size ∧ ∀ j, j < zs.length → w.cell? ⟨b, off + j, none⟩ = some (.int k (zs.getD j 0)) := by
  rcases h with ⟨_, h, _⟩ | ⟨x, rfl, hl, hm, hz, hc, _⟩
  · omega
  · obtain ⟨b, off, rfl, hc'⟩ := ints_at hc (by omega)
    exact ⟨b, off, rfl, hl, hm, hz, World.block_lt_of_cell? w _ (hc' 0 (by omega)), hc'⟩

/-- The text as a string. -/
def strOf (z : List Int) (len : Nat) : ByteArray := strOfNums (z.take len)

theorem conv_empty {P : Program} (w : World) (src dst e : TypeId) (a : Option Addr) (c : Nat) (hs : P.underlying src = some (.slice e)) (he : P.underlying e = some (.int .u8)) (hd : P.underlying dst = some .string) :
    (convert src dst (.slice a 0 c)).run P w = .ok (.string ByteArray.empty) w := by
  cases a with
  | none => exact run_convert_bytes_nil w src e hs he 0 c dst hd
  | some x =>
    rw [run_convert_bytes_string w src dst e _ 0 c hs he hd]
    exact run_bytesToString w x 0 c [] (by simp [loadCells, loadCellsFrom])

theorem conv_row {w W : World} {a : Option Addr} {len cap : Nat} {z : List Int} (h : IsRow .u8 w a len cap z) (hb : Below w.heap.size w W) (dst : TypeId) (hd : Yba.prog.underlying dst = some .string) :
    (convert 23 dst (.slice a len cap)).run Yba.prog W = .ok (.string (strOf z len)) W := by
  by_cases hp : 0 < len
  · obtain ⟨b, off, rfl, hl, hm, hz, hbl, hc⟩ := h.lies hp
    refine run_convert_bytes_arg W 23 5 Yba.underlying23 Yba.underlying5 b off len cap (z.take len) (by simp; omega) (fun i hi => ?_) dst hd
    rw [hb.cell (p := ⟨b, off + i, none⟩) hbl, hc i (by omega)]
    simp [List.getD, hi]
  · obtain rfl : len = 0 := by omega
    rw [conv_empty W 23 dst 5 a cap Yba.underlying23 Yba.underlying5 hd]
    rfl

/-- FNV-1a over the first i bytes. -/
def fnvTo (z : List Int) : Nat → Int
  | 0 => 2166136261
  | i + 1 => bits .xor .u32 (fnvTo z i) (z[i]?.getD 0 % 4294967296) * 16777619 % 4294967296
theorem fnvTo_range (z : List Int) (i : Nat) : 0 ≤ fnvTo z i ∧ fnvTo z i < 4294967296 := by
  cases i with
  | zero => simp [fnvTo]
  | succ i => rw [fnvTo]; omega

set_option maxHeartbeats 1000000 in
theorem fnv_some (b off len cap : Nat) (z : List Int) (w : World) (hl : len ≤ 1024) (hc : ∀ j, j < len → w.cell? ⟨b, off + j, none⟩ = some (.int .u8 (z.getD j 0))) :
    Calls Yba.prog 6 #[.slice (some ⟨b, off, none⟩) len cap] w fun e w' => e = .returned (.int .u32 (fnvTo z len)) ∧ w = w' := by
  go_enter Yba.func6, Yba.ntmps6
  go_wp2
  go_loop [3, 4] (fun h i => ∃ k : Nat, k ≤ len ∧ i = .int .i64 k ∧ h = .int .u32 (fnvTo z k)) (fun _ i => len - (intOf i).toNat)
  case atStart => exact ⟨0, Nat.zero_le _, rfl, rfl⟩
  case round =>
    obtain ⟨k, hk, rfl, rfl⟩ := hrel
    by_cases hlt : k < len
    · have c := hc k hlt
      go_wp2
      go_round
      case rel => exact ⟨k + 1, by omega, by go_num, rfl⟩
      case measure => simp [intOf]; omega
    · obtain rfl : k = len := by omega
      go_wp2
      go_ret
      exact ⟨rfl, rfl⟩

set_option maxHeartbeats 1000000 in
theorem fnv_none (a : Option Addr) (cap : Nat) (z : List Int) (w : World) :
    Calls Yba.prog 6 #[.slice a 0 cap] w fun e w' => e = .returned (.int .u32 (fnvTo z 0)) ∧ w = w' := by
  go_enter Yba.func6, Yba.ntmps6
  go_wp2
  refine wp_loop_rounds 1 ?_
  rw [rounds_succ]
  go_wp2
  go_ret
  exact ⟨rfl, rfl⟩

theorem fnv_calls (a : Option Addr) (len cap : Nat) (z : List Int) (w W : World) (hl : len ≤ 1024) (h : IsRow .u8 w a len cap z) (hb : Below w.heap.size w W) :
    Calls Yba.prog 6 #[.slice a len cap] W fun e w' => e = .returned (.int .u32 (fnvTo z len)) ∧ W = w' := by
  by_cases hp : 0 < len
  · obtain ⟨b, off, rfl, h1, hm, hz, hbl, hc⟩ := h.lies hp
    exact fnv_some b off len cap z W hl (fun j hj => (hb.cell (p := ⟨b, off + j, none⟩) hbl).trans (hc j (by omega)))
  · obtain rfl : len = 0 := by omega
    exact fnv_none a cap z W

/-- A slot's state: what the last call that picked it left there. -/
def slotV : Option (Bool × ByteArray) → Value
  | none => .nilIface
  | some (true, s) => .iface 36 (.string s)
  | some (false, s) => .iface 9 (.string s)
/-- The reader's cells: four of its own, then the slots. -/
def rf (st : Nat → Option (Bool × ByteArray)) (i : Nat) : Value := if i < 4 then (if i = 1 then .int .i64 0 else .slice none 0 0) else slotV (st (i - 4))
/-- The slot k set. -/
def upd (st : Nat → Option (Bool × ByteArray)) (k : Nat) (x : Bool × ByteArray) (j : Nat) : Option (Bool × ByteArray) := if j = k then some x else st j

theorem rf_set (st : Nat → Option (Bool × ByteArray)) (k : Nat) (x : Bool × ByteArray) : (fun j => if j = 4 + k then slotV (some x) else rf st j) = rf (upd st k x) := by
  funext j
  unfold rf upd
  by_cases h : j = 4 + k
  · subst h; simp [show ¬ 4 + k < 4 by omega]
  · by_cases h4 : j < 4
    · simp [h, h4]
    · simp [h, h4, show ¬ j - 4 = k by omega]
theorem rf_same (st : Nat → Option (Bool × ByteArray)) (k : Nat) (x : Bool × ByteArray) (h : st k = some x) : rf st = rf (upd st k x) := by
  have : upd st k x = st := by funext j; unfold upd; split <;> simp_all
  rw [this]
theorem rf_at (st : Nat → Option (Bool × ByteArray)) (k : Nat) : rf st (4 + k) = slotV (st k) := by simp [rf, show ¬ 4 + k < 4 by omega]

/-- Which slot a text picks. -/
def pick (z : List Int) (len : Nat) : Nat := (fnvTo z len % 1024).toNat
theorem pick_lt (z : List Int) (len : Nat) : pick z len < 1024 := by unfold pick; omega
theorem pick_eq (z : List Int) (len : Nat) : fnvTo z len % 1024 = (pick z len : Int) := by unfold pick; omega
end Go.Proofs.Ybulkyty
