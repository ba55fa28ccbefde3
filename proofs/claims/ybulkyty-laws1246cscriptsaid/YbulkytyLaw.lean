import Derived.Test.YbulkytyScript
namespace Go.Proofs.Ybulkyty
open Go.RowKit
set_option linter.unusedVariables false

theorem Out.other {R : Nat} {st : Nat → Option (Bool × ByteArray)} {k : Nat} {x : Bool × ByteArray} {W W' : World} (ho : Out R st k x W W') {p : Addr} (hp : p.block < W.heap.size) (hne : p.block ≠ R) : W'.cell? p = W.cell? p :=
  World.cell?_of_block (ho.2.1.block p.block hp (by simpa using hne))
theorem Out.old {w : World} {R M : Nat} {st : Nat → Option (Bool × ByteArray)} {k : Nat} {x : Bool × ByteArray} {W W' : World} (S : SL w R M st W) (ho : Out R st k x W W') : Below w.heap.size w W' :=
  S.old.grown ho.2.1 S.old.size (fun y hy => by simp at hy; have := S.hR; omega)
theorem Out.m {w : World} {R M : Nat} {st : Nat → Option (Bool × ByteArray)} {k : Nat} {x : Bool × ByteArray} {W W' : World} (S : SL w R M st W) (ho : Out R st k x W W') : W'.rowIs M 34 3072 (mf st) :=
  S.m.of_block (ho.2.1.block M S.m.lt (by have := S.ne; simp; omega))

theorem neqnil (w : World) : (binOp .neq 20 .nilIface .nilIface).run Yba.prog w = .ok (.bool false) w := by kernel_rfl
theorem guardnil (w : World) : (eqGuard BinOp.neq 20 (Operand.tmp 116) (Operand.tmp 117) Value.nilIface Value.nilIface).run Yba.prog w = .ok () w := by kernel_rfl
theorem zv31 (w : World) : (zeroValue 31).run Yba.prog w = .ok (.agg rZero) w := by kernel_rfl
theorem zv34 (w : World) : (zeroValue 34).run Yba.prog w = .ok (.agg mZero) w := by kernel_rfl

set_option maxHeartbeats 4000000 in
set_option maxRecDepth 100000 in
theorem script_some (b off len cap : Nat) (N : Nat → Bool) (A : Nat → Option Addr) (L C : Nat → Nat) (Z : Nat → List Int) (w : World) (hl : len ≤ 256) (h : IsOps w b off len N A L C Z) :
    Calls Yba.prog 3 #[.slice (some ⟨b, off, none⟩) len cap] w fun e w' => e = .returned (.bool true) ∧ Below w.heap.size w w' := by
  have hl' : (len : Int) ≤ 256 := by omega
  go_enter Yba.func3, Yba.ntmps3
  go_wp2
  go_loop [3] (fun i => ∃ k : Nat, k ≤ len ∧ i = .int .i64 k ∧ ∀ j, j < k → L j ≤ 1024) (fun i => len - (intOf i).toNat)
  case atStart => exact ⟨0, Nat.zero_le _, rfl, fun j hj => absurd hj (by omega)⟩
  case round =>
    obtain ⟨k, hk, rfl, hL⟩ := hrel
    have HL : Hid (∀ j, j < k → L j ≤ 1024) := hL
    clear hL
    by_cases hlt : k < len
    · have c := h.t k hlt
      by_cases hs : L k ≤ 1024
      · have hs' : (L k : Int) ≤ 1024 := by omega
        go_wp2
        go_round
        case rel => exact ⟨k + 1, by omega, by go_num, fun j hj => by
          by_cases e : j = k
          · subst e; exact hs
          · exact HL.out j (by omega)⟩
        case measure => simp [intOf]; omega
      · have hs' : (1024 : Int) < (L k : Int) := by omega
        go_wp2
        go_ret
        exact ⟨rfl, Below.refl _ _⟩
    · obtain rfl : k = len := by omega
      have z31 := zv31
      have z34 := zv34
      go_wp2
      have S0 := SL.start w
      obtain ⟨W2, hW2⟩ : ∃ W2 : World, W2 = (w.alloc (Obj.cells rZero 31)).alloc (Obj.cells mZero 34) := ⟨_, rfl⟩
      rw [← hW2]
      rw [← hW2] at S0
      clear hW2 z31 z34
      go_loopw [6] (fun i wr => ∃ (j : Nat) (st : Nat → Option (Bool × ByteArray)), j ≤ k ∧ i = .int .i64 j ∧ SL w w.heap.size (w.heap.size + 1) st wr) (fun i _ => k - (intOf i).toNat)
      case atStart => exact ⟨0, _, Nat.zero_le _, rfl, S0⟩
      case round =>
        clear S0
        obtain ⟨j, st, hj, rfl, S⟩ := hrel
        by_cases hjk : j < k
        · have cn := (S.old.cell (p := ⟨b, off + j * 2, none⟩) h.hb).trans (h.n j hjk)
          have ct := (S.old.cell (p := ⟨b, off + j * 2 + 1, none⟩) h.hb).trans (h.t j hjk)
          have hz := h.z j hjk
          have hLj := HL.out j hjk
          have S1 := S.alloc (.cells #[.bool (N j), .slice (A j) (L j) (C j)] 25)
          have cv := (conv_both hz S1.old).1
          have hpk := pick_eq (Z j) (L j)
          have hplt := pick_lt (Z j) (L j)
          have hr0 := (fnvTo_range (Z j) (L j)).1
          have x0 : (wr.alloc (.cells #[.bool (N j), .slice (A j) (L j) (C j)] 25)).cell? ⟨wr.heap.size, 0, none⟩ = some (.bool (N j)) := by rw [World.cell?_alloc_at _ _ _ _ rfl]; rfl
          have x1 : (wr.alloc (.cells #[.bool (N j), .slice (A j) (L j) (C j)] 25)).cell? ⟨wr.heap.size, 1, none⟩ = some (.slice (A j) (L j) (C j)) := by rw [World.cell?_alloc_at _ _ _ _ rfl]; rfl
          have a1 := as36_36
          have a2 := as9_9
          have hsz := S.old.size
          have lM := S.m.lt
          cases hN : N j
          · rw [hN] at x0 x1 cn cv S1
            clear hN
            go_wp2_with (first
              | (go_at_call 5; refine (str_calls w.heap.size st (A j) (L j) (C j) (Z j) w _ hLj hz S1.old S1.r).mono ?_; rintro e w2 ⟨rfl, ho⟩; have y0 := (ho.other (p := ⟨wr.heap.size, 0, none⟩) (by simp) (by show wr.heap.size ≠ w.heap.size; omega)).trans x0; have y1 := (ho.other (p := ⟨wr.heap.size, 1, none⟩) (by simp) (by show wr.heap.size ≠ w.heap.size; omega)).trans x1; have hm := Out.m S1 ho; have m0 := hm.cell (i := pick (Z j) (L j) * 3) (by omega); have m1 := hm.cell (i := pick (Z j) (L j) * 3 + 1) (by omega); have m2 := hm.cell (i := pick (Z j) (L j) * 3 + 2) (by omega); have f0 := hm.frozen (pick (Z j) (L j) * 3); have f1 := hm.frozen (pick (Z j) (L j) * 3 + 1); have f2 := hm.frozen (pick (Z j) (L j) * 3 + 2))
              | (go_at_call 6; refine (fnv_calls (A j) (L j) (C j) (Z j) w _ hLj hz (Out.old S1 ho)).mono ?_; rintro e w3 ⟨rfl, rfl⟩))
            go_roundw
            case rel => exact ⟨j + 1, _, by omega, by go_num, S1.step _ _ _ ho⟩
            case measure => simp [intOf]; omega
          · rw [hN] at x0 x1 cn cv S1
            clear hN
            go_wp2_with (first
              | (go_at_call 4; refine (num_calls w.heap.size st (A j) (L j) (C j) (Z j) w _ hLj hz S1.old S1.r).mono ?_; rintro e w2 ⟨rfl, ho⟩; have y0 := (ho.other (p := ⟨wr.heap.size, 0, none⟩) (by simp) (by show wr.heap.size ≠ w.heap.size; omega)).trans x0; have y1 := (ho.other (p := ⟨wr.heap.size, 1, none⟩) (by simp) (by show wr.heap.size ≠ w.heap.size; omega)).trans x1; have hm := Out.m S1 ho; have m0 := hm.cell (i := pick (Z j) (L j) * 3) (by omega); have m1 := hm.cell (i := pick (Z j) (L j) * 3 + 1) (by omega); have m2 := hm.cell (i := pick (Z j) (L j) * 3 + 2) (by omega); have f0 := hm.frozen (pick (Z j) (L j) * 3); have f1 := hm.frozen (pick (Z j) (L j) * 3 + 1); have f2 := hm.frozen (pick (Z j) (L j) * 3 + 2))
              | (go_at_call 6; refine (fnv_calls (A j) (L j) (C j) (Z j) w _ hLj hz (Out.old S1 ho)).mono ?_; rintro e w3 ⟨rfl, rfl⟩))
            go_roundw
            case rel => exact ⟨j + 1, _, by omega, by go_num, S1.step _ _ _ ho⟩
            case measure => simp [intOf]; omega
        · have n36 := neq36
          have n9 := neq9
          have nn := neqnil
          have ng := guardnil
          go_wp2
          obtain ⟨W4, hW4⟩ : ∃ W4 : World, W4 = wr := ⟨_, rfl⟩
          rw [← hW4]
          rw [← hW4] at S
          clear hW4
          go_loopw [16] (fun i wr => ∃ j : Nat, j ≤ 1024 ∧ i = .int .i64 j ∧ SL w w.heap.size (w.heap.size + 1) st wr) (fun i _ => 1024 - (intOf i).toNat)
          case atStart => exact ⟨0, Nat.zero_le _, rfl, S⟩
          case round =>
            clear S
            obtain ⟨t, ht, rfl, S⟩ := hrel
            by_cases htl : t < 1024
            · have cr := S.r.cell (i := 4 + t) (by omega)
              rw [rf_at] at cr
              have m0 := S.m.cell (i := t * 3) (by omega)
              have m1 := S.m.cell (i := t * 3 + 1) (by omega)
              have m2 := S.m.cell (i := t * 3 + 2) (by omega)
              simp only [mf] at m0 m1 m2
              rw [show t * 3 / 3 = t by omega, show t * 3 % 3 = 0 by omega] at m0
              rw [show (t * 3 + 1) / 3 = t by omega, show (t * 3 + 1) % 3 = 1 by omega] at m1
              rw [show (t * 3 + 2) / 3 = t by omega, show (t * 3 + 2) % 3 = 2 by omega] at m2
              have lr := S.r.lt
              have nr : ¬ w.heap.size = wr.heap.size := by omega
              rcases hst : st t with _ | ⟨n, s⟩
              · rw [hst] at cr m0 m1 m2
                simp only [slotV, mcell] at cr m0 m1 m2
                clear hst
                go_wp2
                go_roundw
                case rel => exact ⟨t + 1, by omega, by go_num, S.alloc _⟩
                case measure => simp [intOf]; omega
              · cases n
                all_goals
                  rw [hst] at cr m0 m1 m2
                  simp only [slotV, mcell] at cr m0 m1 m2
                  clear hst
                  go_wp2
                  go_roundw
                  case rel => exact ⟨t + 1, by omega, by go_num, S.alloc _⟩
                  case measure => simp [intOf]; omega
            · go_wp2
              go_ret
              exact ⟨rfl, S.old⟩

set_option maxHeartbeats 1000000 in
set_option maxRecDepth 100000 in
theorem script_none (a : Option Addr) (len cap : Nat) (w : World) (hl : len ≤ 0) :
    Calls Yba.prog 3 #[.slice a len cap] w fun e w' => e = .returned (.bool true) ∧ Below w.heap.size w w' := by
  have hl' : (len : Int) ≤ 256 := by omega
  have z31 := zv31
  have z34 := zv34
  have nn := neqnil
  have ng := guardnil
  go_enter Yba.func3, Yba.ntmps3
  go_wp2
  refine wp_loop_rounds 1 ?_
  rw [rounds_succ]
  go_wp2
  refine wp_loop_rounds 1 ?_
  rw [rounds_succ]
  go_wp2
  have S0 := SL.start w
  obtain ⟨W2, hW2⟩ : ∃ W2 : World, W2 = (w.alloc (Obj.cells rZero 31)).alloc (Obj.cells mZero 34) := ⟨_, rfl⟩
  rw [← hW2]
  rw [← hW2] at S0
  clear hW2 z31 z34
  go_loopw [16] (fun i wr => ∃ j : Nat, j ≤ 1024 ∧ i = .int .i64 j ∧ SL w w.heap.size (w.heap.size + 1) (fun _ => none) wr) (fun i _ => 1024 - (intOf i).toNat)
  case atStart => exact ⟨0, Nat.zero_le _, rfl, S0⟩
  case round =>
    clear S0
    obtain ⟨t, ht, rfl, S⟩ := hrel
    by_cases htl : t < 1024
    · have cr := S.r.cell (i := 4 + t) (by omega)
      rw [rf_at] at cr
      have m0 := S.m.cell (i := t * 3) (by omega)
      have m1 := S.m.cell (i := t * 3 + 1) (by omega)
      have m2 := S.m.cell (i := t * 3 + 2) (by omega)
      simp only [mf] at m0 m1 m2
      rw [show t * 3 % 3 = 0 by omega] at m0
      rw [show (t * 3 + 1) % 3 = 1 by omega] at m1
      rw [show (t * 3 + 2) % 3 = 2 by omega] at m2
      have lr := S.r.lt
      have nr : ¬ w.heap.size = wr.heap.size := by omega
      simp only [slotV, mcell] at cr m0 m1 m2
      go_wp2
      go_roundw
      case rel => exact ⟨t + 1, by omega, by go_num, S.alloc _⟩
      case measure => simp [intOf]; omega
    · go_wp2
      go_ret
      exact ⟨rfl, S.old⟩

theorem script_large (a : Option Addr) (len cap : Nat) (w : World) (hl : ¬ len ≤ 256) :
    Calls Yba.prog 3 #[.slice a len cap] w fun e w' => e = .returned (.bool true) ∧ Below w.heap.size w w' := by
  have hl' : (256 : Int) < (len : Int) := by omega
  go_enter Yba.func3, Yba.ntmps3
  go_wp2
  go_ret
  exact ⟨rfl, Below.refl _ _⟩
end Go.Proofs.Ybulkyty
