import Derived.Test.YbulkyvaExact
namespace Go.Proofs.Ybulkyva
open Go.RowKit
set_option linter.unusedVariables false

/-- Does x stand among the first n? -/
def contB (Z : Nat → Int) (x : Int) : Nat → Bool
  | 0 => false
  | n + 1 => contB Z x n || (Z n == x)

theorem heldB_none (Z : Nat → Int) (x : Int) (n : Nat) : heldB Z (fun _ => false) x n = contB Z x n := by
  induction n with
  | zero => rfl
  | succ n ih => simp [heldB, contB, ih]

theorem contB_hit (Z : Nat → Int) (x : Int) (k n : Nat) (h : Z k = x) (hk : k < n) : contB Z x n = true := by
  induction n with
  | zero => omega
  | succ n ih =>
    by_cases e : k = n
    · subst e; simp [contB, h]
    · simp [contB, ih (by omega)]

set_option maxHeartbeats 1000000 in
theorem index_some (b off n cap : Nat) (Z : Nat → Int) (x : Int) (w : World) (hn : n ≤ 1024) (hc : ∀ i, i < n → w.cell? ⟨b, off + i, none⟩ = some (.int .i64 (Z i))) :
    Calls Yba.prog 23 #[.slice (some ⟨b, off, none⟩) n cap, .int .i64 x] w fun e w' =>
      ∃ r : Int, e = .returned (.int .i64 r) ∧ (decide (0 ≤ r) = contB Z x n) ∧ w = w' := by
  go_enter Yba.func23, Yba.ntmps23
  go_wp2
  go_loop [8] (fun i => ∃ k : Nat, k ≤ n ∧ i = .int .i64 k ∧ Hid (contB Z x k = false)) (fun i => n - (intOf i).toNat)
  case atStart => exact ⟨0, Nat.zero_le _, rfl, rfl⟩
  case round =>
    obtain ⟨k, hk, rfl, HC⟩ := hrel
    by_cases hlt : k < n
    · have c := hc k hlt
      by_cases h : Z k = x
      · have hx : (x == Z k) = true := by simp [h]
        have HH : Hid (contB Z x n = true) := contB_hit Z x k n h hlt
        clear h
        go_wp2
        go_ret
        exact ⟨_, rfl, by rw [HH.out]; simp, rfl⟩
      · have hx : (x == Z k) = false := by simp; exact fun e => h e.symm
        have HH : Hid (contB Z x (k + 1) = false) := by show contB Z x (k + 1) = false; simp [contB, HC.out, h]
        clear h
        go_wp2
        go_round
        case rel => exact ⟨k + 1, by omega, by go_num, HH⟩
        case measure => simp [intOf]; omega
    · obtain rfl : k = n := by omega
      go_wp2
      go_ret
      exact ⟨-1, rfl, by rw [HC.out]; simp, rfl⟩

set_option maxHeartbeats 1000000 in
theorem index_none (a : Option Addr) (n cap : Nat) (Z : Nat → Int) (x : Int) (w : World) (hn : n ≤ 0) :
    Calls Yba.prog 23 #[.slice a n cap, .int .i64 x] w fun e w' =>
      ∃ r : Int, e = .returned (.int .i64 r) ∧ (decide (0 ≤ r) = contB Z x n) ∧ w = w' := by
  have HH : Hid (contB Z x n = false) := by obtain rfl : n = 0 := by omega
                                            rfl
  go_enter Yba.func23, Yba.ntmps23
  go_wp2
  refine wp_loop_rounds 1 ?_
  rw [rounds_succ]
  go_wp2
  go_ret
  exact ⟨-1, rfl, by rw [HH.out]; simp, rfl⟩

set_option maxHeartbeats 1000000 in
theorem contains_of (v : Value) (n : Nat) (Z : Nat → Int) (x : Int) (w : World)
    (h : Calls Yba.prog 23 #[v, .int .i64 x] w fun e w' => ∃ r : Int, e = .returned (.int .i64 r) ∧ (decide (0 ≤ r) = contB Z x n) ∧ w = w') :
    Calls Yba.prog 14 #[v, .int .i64 x] w fun e w' => e = .returned (.bool (contB Z x n)) ∧ w = w' := by
  have H : Hid (Calls Yba.prog 23 #[v, .int .i64 x] w fun e w' => ∃ r : Int, e = .returned (.int .i64 r) ∧ (decide (0 ≤ r) = contB Z x n) ∧ w = w') := h
  clear h
  go_enter Yba.func14, Yba.ntmps14
  go_wp2_with fail
  refine H.out.mono ?_
  rintro e w' ⟨r, rfl, hr, rfl⟩
  have HR : Hid (decide (0 ≤ r) = contB Z x n) := hr
  clear hr
  go_wp2
  go_ret
  exact ⟨by rw [← HR.out]; rfl, rfl⟩

theorem contains_calls (a : Option Addr) (n cap : Nat) (zs : List Int) (x : Int) (w W : World) (hn : n ≤ 1024) (hr : IsRow .i64 w a n cap zs) (hb : Below w.heap.size w W) :
    Calls Yba.prog 14 #[.slice a n cap, .int .i64 x] W fun e w' => e = .returned (.bool (contB (zf zs) x n)) ∧ W = w' := by
  refine contains_of _ n (zf zs) x W ?_
  by_cases hp : 0 < n
  · obtain ⟨b, off, rfl, h1, hm, hz, hbl, hc⟩ := hr.lies hp
    exact index_some b off n cap _ x W hn (fun i hi => (hb.cell (p := ⟨b, off + i, none⟩) hbl).trans (hc i (by omega)))
  · exact index_none a n cap _ x W (by omega)

set_option maxHeartbeats 1000000 in
set_option maxRecDepth 100000 in
theorem nofaulty_in (a : Option Addr) (n cap : Nat) (zs : List Int) (w : World) (hn : n ≤ 1024) (hr : IsRow .i64 w a n cap zs) :
    Calls Yba.prog 6 #[.slice a n cap] w fun e w' => e = .returned (.bool true) ∧ Below w.heap.size w w' := by
  have hn' : (n : Int) ≤ 1024 := by omega
  go_enter Yba.func6, Yba.ntmps6
  go_wp2_with fail
  have hb1 := below_one w (.cells #[.slice a n cap, .slice none 0 0, .nilIface] 51)
  refine (held_calls (.slice a n cap) .nilIface none 0 0 n (fun _ => false) a cap zs w _ (by unfold maxLen; omega) hn (.inl ⟨rfl, rfl, rfl, fun _ => rfl⟩) hr hb1).mono ?_
  rintro e w2 ⟨rfl, hb2⟩
  rw [heldB_none, heldB_none]
  have hz2 := hb2.size
  simp only [World.size_alloc] at hz2
  have hb3 : Below w.heap.size w (w2.alloc (.cells #[.bool (contB (zf zs) 0 n), .bool (contB (zf zs) 1 n)] 66)) := (hb1.trans (hb2.mono (by simp))).alloc (by omega) _
  go_wp2
  have hC : ∀ (x : Int) (q : Nat), Calls Yba.prog 14 #[.slice a n cap, .int .i64 x] ((w2.alloc (.cells #[.bool (contB (zf zs) 0 n), .bool (contB (zf zs) 1 n)] 66)).drewN q) fun e w' => e = .returned (.bool (contB (zf zs) x n)) ∧ w' = ((w2.alloc (.cells #[.bool (contB (zf zs) 0 n), .bool (contB (zf zs) 1 n)] 66)).drewN q) := fun x q => (contains_calls a n cap zs x w _ hn hr (below_drewN hb3 q)).mono (by rintro e w' ⟨rfl, rfl⟩; exact ⟨rfl, rfl⟩)
  have HC : Hid (∀ (x : Int) (q : Nat), Calls Yba.prog 14 #[.slice a n cap, .int .i64 x] ((w2.alloc (.cells #[.bool (contB (zf zs) 0 n), .bool (contB (zf zs) 1 n)] 66)).drewN q) fun e w' => e = .returned (.bool (contB (zf zs) x n)) ∧ w' = ((w2.alloc (.cells #[.bool (contB (zf zs) 0 n), .bool (contB (zf zs) 1 n)] 66)).drewN q)) := hC
  clear hC
  go_quiet ((go_at_call 14; exact Calls.quiet_of_same (HC.out _ _)))
  go_wp2
  go_ret
  exact ⟨rfl, below_drewN hb3 _⟩

set_option maxHeartbeats 1000000 in
theorem nofaulty_out (a : Option Addr) (n cap : Nat) (w : World) (h : ¬ n ≤ 1024) :
    Calls Yba.prog 6 #[.slice a n cap] w fun e w' => e = .returned (.bool true) ∧ Below w.heap.size w w' := by
  have hn' : (1024 : Int) < (n : Int) := by omega
  go_enter Yba.func6, Yba.ntmps6
  go_wp2
  go_ret
  exact ⟨rfl, Below.refl _ _⟩

theorem nofaulty_walk (a : Option Addr) (n cap : Nat) (zs : List Int) (w : World) (hr : IsRow .i64 w a n cap zs) :
    Calls Yba.prog 6 #[.slice a n cap] w fun e w' => e = .returned (.bool true) ∧ Below w.heap.size w w' := by
  by_cases h1 : n ≤ 1024
  · exact nofaulty_in a n cap zs w h1 hr
  · exact nofaulty_out a n cap w h1
end Go.Proofs.Ybulkyva
