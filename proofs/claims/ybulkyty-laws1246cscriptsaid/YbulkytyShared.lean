import Derived.Test.YbulkytyBase
namespace Go.Proofs.Ybulkyty
open Go.RowKit
set_option linter.unusedVariables false

theorem as36_36 (v : Value) (w : World) : (Instr.typeAssert (.iface 36 v) 20 36 true).run Yba.prog w = .ok (.tuple #[v, .bool true]) w := by kernel_rfl
theorem as9_36 (v : Value) (w : World) : (Instr.typeAssert (.iface 9 v) 20 36 true).run Yba.prog w = .ok (.tuple #[.string ByteArray.empty, .bool false]) w := by kernel_rfl
theorem asnil_36 (w : World) : (Instr.typeAssert .nilIface 20 36 true).run Yba.prog w = .ok (.tuple #[.string ByteArray.empty, .bool false]) w := by kernel_rfl
theorem as36_9 (v : Value) (w : World) : (Instr.typeAssert (.iface 36 v) 20 9 true).run Yba.prog w = .ok (.tuple #[.string ByteArray.empty, .bool false]) w := by kernel_rfl
theorem as9_9 (v : Value) (w : World) : (Instr.typeAssert (.iface 9 v) 20 9 true).run Yba.prog w = .ok (.tuple #[v, .bool true]) w := by kernel_rfl
theorem asnil_9 (w : World) : (Instr.typeAssert .nilIface 20 9 true).run Yba.prog w = .ok (.tuple #[.string ByteArray.empty, .bool false]) w := by kernel_rfl

theorem bytes_inj {a b : ByteArray} (h : a.toList = b.toList) : a = b := by
  rw [ByteArray.toList_eq, ByteArray.toList_eq] at h
  cases a
  cases b
  simp only [ByteArray.mk.injEq]
  exact Array.toList_inj.1 h
theorem bytes_ne {a b : ByteArray} (h : ¬ a = b) : (a.toList == b.toList) = false := by
  rw [beq_eq_false_iff_ne]
  exact fun e => h (bytes_inj e)

/-- What shared leaves: the slot that the text picks holds the value; nothing else has turned. -/
def Out (R : Nat) (st : Nat → Option (Bool × ByteArray)) (k : Nat) (x : Bool × ByteArray) (w w' : World) : Prop :=
  w'.rowIs R 31 1028 (rf (upd st k x)) ∧ w.grownBy w' (some R) ∧ w'.heap.size = w.heap.size

theorem Out.same {R : Nat} {st : Nat → Option (Bool × ByteArray)} {k : Nat} {x : Bool × ByteArray} {w : World} (h : w.rowIs R 31 1028 (rf st)) (hs : st k = some x) : Out R st k x w w :=
  ⟨by rw [← rf_same st k x hs]; exact h, ⟨rfl, rfl, rfl, Nat.le_refl _, fun _ _ _ => rfl⟩, rfl⟩
theorem Out.store {R : Nat} {st : Nat → Option (Bool × ByteArray)} {k : Nat} {x : Bool × ByteArray} {w : World} (h : w.rowIs R 31 1028 (rf st)) : Out R st k x w (w.setCell ⟨R, 4 + k, none⟩ (slotV (some x))) :=
  ⟨by rw [← rf_set st k x]; exact h.set (4 + k) _, ⟨rfl, rfl, rfl, by simp, fun i _ hi => Below.heap_setCell _ _ _ _ (fun e => hi (by rw [e]))⟩, by simp⟩

set_option maxHeartbeats 1000000 in
set_option maxRecDepth 100000 in
theorem num_some (R : Nat) (st : Nat → Option (Bool × ByteArray)) (b off len cap : Nat) (z : List Int) (w : World) (hl : len ≤ 1024) (hR : w.rowIs R 31 1028 (rf st))
    (hc : ∀ j, j < len → w.cell? ⟨b, off + j, none⟩ = some (.int .u8 (z.getD j 0))) (hcv : (convert 23 9 (.slice (some ⟨b, off, none⟩) len cap)).run Yba.prog w = .ok (.string (strOf z len)) w)
    (hcv' : (convert 23 36 (.slice (some ⟨b, off, none⟩) len cap)).run Yba.prog w = .ok (.string (strOf z len)) w) :
    Calls Yba.prog 4 #[.pointer (some ⟨R, 0, none⟩), .slice (some ⟨b, off, none⟩) len cap] w fun e w' =>
      e = .returned (.iface 36 (.string (strOf z len))) ∧ Out R st (pick z len) (true, strOf z len) w w' := by
  have hpk := pick_eq z len
  have hlt := pick_lt z len
  have cs := hR.cell (i := 4 + pick z len) (by omega)
  rw [rf_at] at cs
  have fs := hR.frozen (4 + pick z len)
  generalize strOf z len = s at *
  generalize pick z len = p at *
  have a1 := as36_36
  have a2 := as9_36
  have a3 := asnil_36
  rcases hst : st p with _ | ⟨n', s'⟩
  · rw [hst] at cs
    simp only [slotV] at cs
    clear hst
    go_enter Yba.func4, Yba.ntmps4
    go_wp2
    go_loop [5, 13] (fun h i => ∃ k : Nat, k ≤ len ∧ i = .int .i64 k ∧ h = .int .u32 (fnvTo z k)) (fun _ i => len - (intOf i).toNat)
    case atStart => exact ⟨0, Nat.zero_le _, rfl, rfl⟩
    case round =>
      obtain ⟨k, hk, rfl, rfl⟩ := hrel
      by_cases hlt : k < len
      · have c := hc k hlt
        go_wp2
        go_round
        case rel => exact ⟨k + 1, by omega, by go_num, rfl⟩
        case measure => simp [intOf]; omega
      · obtain rfl : k = len := by omega
        have hr0 := (fnvTo_range z k).1
        go_wp2
        go_ret
        exact ⟨rfl, Out.store hR⟩
  · cases n'
    · rw [hst] at cs
      simp only [slotV] at cs
      clear hst
      go_enter Yba.func4, Yba.ntmps4
      go_wp2
      go_loop [5, 13] (fun h i => ∃ k : Nat, k ≤ len ∧ i = .int .i64 k ∧ h = .int .u32 (fnvTo z k)) (fun _ i => len - (intOf i).toNat)
      case atStart => exact ⟨0, Nat.zero_le _, rfl, rfl⟩
      case round =>
        obtain ⟨k, hk, rfl, rfl⟩ := hrel
        by_cases hlt : k < len
        · have c := hc k hlt
          go_wp2
          go_round
          case rel => exact ⟨k + 1, by omega, by go_num, rfl⟩
          case measure => simp [intOf]; omega
        · obtain rfl : k = len := by omega
          have hr0 := (fnvTo_range z k).1
          go_wp2
          go_ret
          exact ⟨rfl, Out.store hR⟩
    · rw [hst] at cs
      simp only [slotV] at cs
      by_cases he : s' = s
      · subst he
        have HST : Hid (st p = some (true, s')) := hst
        clear hst
        go_enter Yba.func4, Yba.ntmps4
        go_wp2
        go_loop [5, 13] (fun h i => ∃ k : Nat, k ≤ len ∧ i = .int .i64 k ∧ h = .int .u32 (fnvTo z k)) (fun _ i => len - (intOf i).toNat)
        case atStart => exact ⟨0, Nat.zero_le _, rfl, rfl⟩
        case round =>
          obtain ⟨k, hk, rfl, rfl⟩ := hrel
          by_cases hlt : k < len
          · have c := hc k hlt
            go_wp2
            go_round
            case rel => exact ⟨k + 1, by omega, by go_num, rfl⟩
            case measure => simp [intOf]; omega
          · obtain rfl : k = len := by omega
            have hr0 := (fnvTo_range z k).1
            go_wp2
            go_ret
            exact ⟨rfl, Out.same hR HST.out⟩
      · have hne := bytes_ne he
        clear he hst
        go_enter Yba.func4, Yba.ntmps4
        go_wp2
        go_loop [5, 13] (fun h i => ∃ k : Nat, k ≤ len ∧ i = .int .i64 k ∧ h = .int .u32 (fnvTo z k)) (fun _ i => len - (intOf i).toNat)
        case atStart => exact ⟨0, Nat.zero_le _, rfl, rfl⟩
        case round =>
          obtain ⟨k, hk, rfl, rfl⟩ := hrel
          by_cases hlt : k < len
          · have c := hc k hlt
            go_wp2
            go_round
            case rel => exact ⟨k + 1, by omega, by go_num, rfl⟩
            case measure => simp [intOf]; omega
          · obtain rfl : k = len := by omega
            have hr0 := (fnvTo_range z k).1
            go_wp2
            go_ret
            exact ⟨rfl, Out.store hR⟩

set_option maxHeartbeats 1000000 in
set_option maxRecDepth 100000 in
theorem num_none (R : Nat) (st : Nat → Option (Bool × ByteArray)) (a : Option Addr) (cap : Nat) (z : List Int) (w : World) (hR : w.rowIs R 31 1028 (rf st)) (hcv : (convert 23 9 (.slice a 0 cap)).run Yba.prog w = .ok (.string (strOf z 0)) w)
    (hcv' : (convert 23 36 (.slice a 0 cap)).run Yba.prog w = .ok (.string (strOf z 0)) w) :
    Calls Yba.prog 4 #[.pointer (some ⟨R, 0, none⟩), .slice a 0 cap] w fun e w' =>
      e = .returned (.iface 36 (.string (strOf z 0))) ∧ Out R st (pick z 0) (true, strOf z 0) w w' := by
  have hp0 : pick z 0 = 453 := by simp [pick, fnvTo]
  rw [hp0]
  clear hp0
  have cs : w.cell? ⟨R, 457, none⟩ = some (slotV (st 453)) := by have := hR.cell (i := 4 + 453) (by omega); rw [rf_at] at this; exact this
  have fs : w.frozen? ⟨R, 457, none⟩ = false := hR.frozen 457
  generalize strOf z 0 = s at *
  have a1 := as36_36
  have a2 := as9_36
  have a3 := asnil_36
  rcases hst : st 453 with _ | ⟨n', s'⟩
  · rw [hst] at cs
    simp only [slotV] at cs
    clear hst
    go_enter Yba.func4, Yba.ntmps4
    go_wp2
    refine wp_loop_rounds 1 ?_
    rw [rounds_succ]
    go_wp2
    go_ret
    exact ⟨rfl, Out.store hR⟩
  · cases n'
    · rw [hst] at cs
      simp only [slotV] at cs
      clear hst
      go_enter Yba.func4, Yba.ntmps4
      go_wp2
      refine wp_loop_rounds 1 ?_
      rw [rounds_succ]
      go_wp2
      go_ret
      exact ⟨rfl, Out.store hR⟩
    · rw [hst] at cs
      simp only [slotV] at cs
      by_cases he : s' = s
      · subst he
        have HST : Hid (st 453 = some (true, s')) := hst
        clear hst
        go_enter Yba.func4, Yba.ntmps4
        go_wp2
        refine wp_loop_rounds 1 ?_
        rw [rounds_succ]
        go_wp2
        go_ret
        exact ⟨rfl, Out.same hR HST.out⟩
      · have hne := bytes_ne he
        clear he hst
        go_enter Yba.func4, Yba.ntmps4
        go_wp2
        refine wp_loop_rounds 1 ?_
        rw [rounds_succ]
        go_wp2
        go_ret
        exact ⟨rfl, Out.store hR⟩

set_option maxHeartbeats 1000000 in
set_option maxRecDepth 100000 in
theorem str_some (R : Nat) (st : Nat → Option (Bool × ByteArray)) (b off len cap : Nat) (z : List Int) (w : World) (hl : len ≤ 1024) (hR : w.rowIs R 31 1028 (rf st))
    (hc : ∀ j, j < len → w.cell? ⟨b, off + j, none⟩ = some (.int .u8 (z.getD j 0))) (hcv : (convert 23 9 (.slice (some ⟨b, off, none⟩) len cap)).run Yba.prog w = .ok (.string (strOf z len)) w)
    (hcv' : (convert 23 36 (.slice (some ⟨b, off, none⟩) len cap)).run Yba.prog w = .ok (.string (strOf z len)) w) :
    Calls Yba.prog 5 #[.pointer (some ⟨R, 0, none⟩), .slice (some ⟨b, off, none⟩) len cap] w fun e w' =>
      e = .returned (.iface 9 (.string (strOf z len))) ∧ Out R st (pick z len) (false, strOf z len) w w' := by
  have hpk := pick_eq z len
  have hlt := pick_lt z len
  have cs := hR.cell (i := 4 + pick z len) (by omega)
  rw [rf_at] at cs
  have fs := hR.frozen (4 + pick z len)
  generalize strOf z len = s at *
  generalize pick z len = p at *
  have a1 := as9_9
  have a2 := as36_9
  have a3 := asnil_9
  rcases hst : st p with _ | ⟨n', s'⟩
  · rw [hst] at cs
    simp only [slotV] at cs
    clear hst
    go_enter Yba.func5, Yba.ntmps5
    go_wp2
    go_loop [5, 13] (fun h i => ∃ k : Nat, k ≤ len ∧ i = .int .i64 k ∧ h = .int .u32 (fnvTo z k)) (fun _ i => len - (intOf i).toNat)
    case atStart => exact ⟨0, Nat.zero_le _, rfl, rfl⟩
    case round =>
      obtain ⟨k, hk, rfl, rfl⟩ := hrel
      by_cases hlt : k < len
      · have c := hc k hlt
        go_wp2
        go_round
        case rel => exact ⟨k + 1, by omega, by go_num, rfl⟩
        case measure => simp [intOf]; omega
      · obtain rfl : k = len := by omega
        have hr0 := (fnvTo_range z k).1
        go_wp2
        go_ret
        exact ⟨rfl, Out.store hR⟩
  · cases n'
    · rw [hst] at cs
      simp only [slotV] at cs
      by_cases he : s' = s
      · subst he
        have HST : Hid (st p = some (false, s')) := hst
        clear hst
        go_enter Yba.func5, Yba.ntmps5
        go_wp2
        go_loop [5, 13] (fun h i => ∃ k : Nat, k ≤ len ∧ i = .int .i64 k ∧ h = .int .u32 (fnvTo z k)) (fun _ i => len - (intOf i).toNat)
        case atStart => exact ⟨0, Nat.zero_le _, rfl, rfl⟩
        case round =>
          obtain ⟨k, hk, rfl, rfl⟩ := hrel
          by_cases hlt : k < len
          · have c := hc k hlt
            go_wp2
            go_round
            case rel => exact ⟨k + 1, by omega, by go_num, rfl⟩
            case measure => simp [intOf]; omega
          · obtain rfl : k = len := by omega
            have hr0 := (fnvTo_range z k).1
            go_wp2
            go_ret
            exact ⟨rfl, Out.same hR HST.out⟩
      · have hne := bytes_ne he
        clear he hst
        go_enter Yba.func5, Yba.ntmps5
        go_wp2
        go_loop [5, 13] (fun h i => ∃ k : Nat, k ≤ len ∧ i = .int .i64 k ∧ h = .int .u32 (fnvTo z k)) (fun _ i => len - (intOf i).toNat)
        case atStart => exact ⟨0, Nat.zero_le _, rfl, rfl⟩
        case round =>
          obtain ⟨k, hk, rfl, rfl⟩ := hrel
          by_cases hlt : k < len
          · have c := hc k hlt
            go_wp2
            go_round
            case rel => exact ⟨k + 1, by omega, by go_num, rfl⟩
            case measure => simp [intOf]; omega
          · obtain rfl : k = len := by omega
            have hr0 := (fnvTo_range z k).1
            go_wp2
            go_ret
            exact ⟨rfl, Out.store hR⟩
    · rw [hst] at cs
      simp only [slotV] at cs
      clear hst
      go_enter Yba.func5, Yba.ntmps5
      go_wp2
      go_loop [5, 13] (fun h i => ∃ k : Nat, k ≤ len ∧ i = .int .i64 k ∧ h = .int .u32 (fnvTo z k)) (fun _ i => len - (intOf i).toNat)
      case atStart => exact ⟨0, Nat.zero_le _, rfl, rfl⟩
      case round =>
        obtain ⟨k, hk, rfl, rfl⟩ := hrel
        by_cases hlt : k < len
        · have c := hc k hlt
          go_wp2
          go_round
          case rel => exact ⟨k + 1, by omega, by go_num, rfl⟩
          case measure => simp [intOf]; omega
        · obtain rfl : k = len := by omega
          have hr0 := (fnvTo_range z k).1
          go_wp2
          go_ret
          exact ⟨rfl, Out.store hR⟩

set_option maxHeartbeats 1000000 in
set_option maxRecDepth 100000 in
theorem str_none (R : Nat) (st : Nat → Option (Bool × ByteArray)) (a : Option Addr) (cap : Nat) (z : List Int) (w : World) (hR : w.rowIs R 31 1028 (rf st)) (hcv : (convert 23 9 (.slice a 0 cap)).run Yba.prog w = .ok (.string (strOf z 0)) w)
    (hcv' : (convert 23 36 (.slice a 0 cap)).run Yba.prog w = .ok (.string (strOf z 0)) w) :
    Calls Yba.prog 5 #[.pointer (some ⟨R, 0, none⟩), .slice a 0 cap] w fun e w' =>
      e = .returned (.iface 9 (.string (strOf z 0))) ∧ Out R st (pick z 0) (false, strOf z 0) w w' := by
  have hp0 : pick z 0 = 453 := by simp [pick, fnvTo]
  rw [hp0]
  clear hp0
  have cs : w.cell? ⟨R, 457, none⟩ = some (slotV (st 453)) := by have := hR.cell (i := 4 + 453) (by omega); rw [rf_at] at this; exact this
  have fs : w.frozen? ⟨R, 457, none⟩ = false := hR.frozen 457
  generalize strOf z 0 = s at *
  have a1 := as9_9
  have a2 := as36_9
  have a3 := asnil_9
  rcases hst : st 453 with _ | ⟨n', s'⟩
  · rw [hst] at cs
    simp only [slotV] at cs
    clear hst
    go_enter Yba.func5, Yba.ntmps5
    go_wp2
    refine wp_loop_rounds 1 ?_
    rw [rounds_succ]
    go_wp2
    go_ret
    exact ⟨rfl, Out.store hR⟩
  · cases n'
    · rw [hst] at cs
      simp only [slotV] at cs
      by_cases he : s' = s
      · subst he
        have HST : Hid (st 453 = some (false, s')) := hst
        clear hst
        go_enter Yba.func5, Yba.ntmps5
        go_wp2
        refine wp_loop_rounds 1 ?_
        rw [rounds_succ]
        go_wp2
        go_ret
        exact ⟨rfl, Out.same hR HST.out⟩
      · have hne := bytes_ne he
        clear he hst
        go_enter Yba.func5, Yba.ntmps5
        go_wp2
        refine wp_loop_rounds 1 ?_
        rw [rounds_succ]
        go_wp2
        go_ret
        exact ⟨rfl, Out.store hR⟩
    · rw [hst] at cs
      simp only [slotV] at cs
      clear hst
      go_enter Yba.func5, Yba.ntmps5
      go_wp2
      refine wp_loop_rounds 1 ?_
      rw [rounds_succ]
      go_wp2
      go_ret
      exact ⟨rfl, Out.store hR⟩

theorem conv_both {w W : World} {a : Option Addr} {len cap : Nat} {z : List Int} (h : IsRow .u8 w a len cap z) (hb : Below w.heap.size w W) :
    (convert 23 9 (.slice a len cap)).run Yba.prog W = .ok (.string (strOf z len)) W ∧ (convert 23 36 (.slice a len cap)).run Yba.prog W = .ok (.string (strOf z len)) W :=
  ⟨conv_row h hb 9 (by kernel_rfl), conv_row h hb 36 (by kernel_rfl)⟩

theorem num_calls (R : Nat) (st : Nat → Option (Bool × ByteArray)) (a : Option Addr) (len cap : Nat) (z : List Int) (w W : World) (hl : len ≤ 1024) (h : IsRow .u8 w a len cap z) (hb : Below w.heap.size w W) (hR : W.rowIs R 31 1028 (rf st)) :
    Calls Yba.prog 4 #[.pointer (some ⟨R, 0, none⟩), .slice a len cap] W fun e w' =>
      e = .returned (.iface 36 (.string (strOf z len))) ∧ Out R st (pick z len) (true, strOf z len) W w' := by
  obtain ⟨c1, c2⟩ := conv_both h hb
  by_cases hp : 0 < len
  · obtain ⟨b, off, rfl, h1, hm, hz, hbl, hc⟩ := h.lies hp
    exact num_some R st b off len cap z W hl hR (fun j hj => (hb.cell (p := ⟨b, off + j, none⟩) hbl).trans (hc j (by omega))) c1 c2
  · obtain rfl : len = 0 := by omega
    exact num_none R st a cap z W hR c1 c2

theorem str_calls (R : Nat) (st : Nat → Option (Bool × ByteArray)) (a : Option Addr) (len cap : Nat) (z : List Int) (w W : World) (hl : len ≤ 1024) (h : IsRow .u8 w a len cap z) (hb : Below w.heap.size w W) (hR : W.rowIs R 31 1028 (rf st)) :
    Calls Yba.prog 5 #[.pointer (some ⟨R, 0, none⟩), .slice a len cap] W fun e w' =>
      e = .returned (.iface 9 (.string (strOf z len))) ∧ Out R st (pick z len) (false, strOf z len) W w' := by
  obtain ⟨c1, c2⟩ := conv_both h hb
  by_cases hp : 0 < len
  · obtain ⟨b, off, rfl, h1, hm, hz, hbl, hc⟩ := h.lies hp
    exact str_some R st b off len cap z W hl hR (fun j hj => (hb.cell (p := ⟨b, off + j, none⟩) hbl).trans (hc j (by omega))) c1 c2
  · obtain rfl : len = 0 := by omega
    exact str_none R st a cap z W hR c1 c2

end Go.Proofs.Ybulkyty
