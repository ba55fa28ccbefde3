import Derived.Test.YbulkyvaLeaf1
namespace Go.Proofs.Ybulkyva
open Go.RowKit
set_option linter.unusedVariables false

/-! ### cmp.isNaN (40), cmp.Compare (31), slices.Compare (22) -/
set_option maxHeartbeats 1000000 in
theorem nan_calls (x : Int) (w : World) : Calls Yba.prog 40 #[.int .i64 x] w fun e w' => e = .returned (.bool false) ∧ w = w' := by
  go_enter Yba.func40, Yba.ntmps40
  go_wp2
  go_ret
  exact ⟨by simp, rfl⟩

set_option maxHeartbeats 1000000 in
theorem cmp_eq (x : Int) (w : World) : Calls Yba.prog 31 #[.int .i64 x, .int .i64 x] w fun e w' => e = .returned (.int .i64 0) ∧ w = w' := by
  have h1 : decide (x < x) = false := by simp
  go_enter Yba.func31, Yba.ntmps31
  go_wp2_with (go_at_call 40; refine (nan_calls _ _).mono ?_; rintro e w' ⟨rfl, rfl⟩)
  go_ret
  exact ⟨rfl, rfl⟩

set_option maxHeartbeats 1000000 in
theorem cmp_gt (x y : Int) (w : World) (h : y < x) : Calls Yba.prog 31 #[.int .i64 x, .int .i64 y] w fun e w' => e = .returned (.int .i64 1) ∧ w = w' := by
  have h1 : ¬ x < y := by omega
  go_enter Yba.func31, Yba.ntmps31
  go_wp2_with (go_at_call 40; refine (nan_calls _ _).mono ?_; rintro e w' ⟨rfl, rfl⟩)
  go_ret
  exact ⟨rfl, rfl⟩

set_option maxHeartbeats 1000000 in
set_option maxRecDepth 100000 in
/-- Two rows of the same length that part at j, the first being the greater there. -/
theorem compare_calls (b b' n c c' j : Nat) (f f' : Nat → Int) (w : World) (hn : n ≤ 1024) (h : IRow w b n f) (h' : IRow w b' n f') (hj : j < n) (he : ∀ i, i < j → f i = f' i) (hg : f' j < f j) :
    Calls Yba.prog 22 #[.slice (some ⟨b, 0, none⟩) n c, .slice (some ⟨b', 0, none⟩) n c'] w fun e w' => e = .returned (.int .i64 1) ∧ w = w' := by
  go_enter Yba.func22, Yba.ntmps22
  go_wp2
  go_loop [11] (fun i => ∃ k : Nat, k ≤ j ∧ i = .int .i64 k) (fun i => j - (intOf i).toNat)
  case atStart => exact ⟨0, Nat.zero_le _, rfl⟩
  case round =>
    obtain ⟨k, hk, rfl⟩ := hrel
    have hlt : k < n := by omega
    have q1 := h.cell hlt
    have q2 := h'.cell hlt
    by_cases e : k < j
    · have q : f' k = f k := (he k e).symm
      rw [q] at q2
      clear q
      go_wp2_with (go_at_call 31; refine (cmp_eq _ _).mono ?_; rintro e w' ⟨rfl, rfl⟩)
      go_round
      case rel => exact ⟨k + 1, by omega, by go_num⟩
      case measure => simp [intOf]; omega
    · obtain rfl : k = j := by omega
      have HG : Hid (f' k < f k) := hg
      clear hg he
      go_wp2_with (go_at_call 31; refine (cmp_gt _ _ _ HG.out).mono ?_; rintro e w' ⟨rfl, rfl⟩)
      go_ret
      exact ⟨rfl, rfl⟩

/-- WHAT MAY COME NEXT: the c-th candidate set is F, of k numbers; the last was L, of m. -/
structure Follows (n f c m : Nat) (L : Nat → Int) (k : Nat) (F : Nat → Int) : Prop where
  first : c = 0 → k = 0
  few : k ≤ f
  low : ∀ i, i < k → 0 ≤ F i
  high : ∀ i, i < k → F i < n
  rise : ∀ i, i + 1 < k → F i < F (i + 1)
  next : c ≠ 0 → m < k ∨ m = k ∧ ∃ j, j < k ∧ (∀ i, i < j → F i = L i) ∧ L j < F j

/-! ### zzs1248bnextset (13) -/
set_option maxHeartbeats 1000000 in
theorem nextset_first (a : Option Addr) (m cm : Nat) (pv : Value) (x y : Int) (n f : Nat) (w : World) (hm : m ≤ 0) :
    Calls Yba.prog 13 #[pv, .slice a m cm, .int .i64 x, .int .i64 y, .bool true] w fun e w' => e = .returned (.bool true) ∧ Below w.heap.size w w' := by
  obtain rfl : m = 0 := by omega
  go_enter Yba.func13, Yba.ntmps13
  go_wp2
  go_ret
  exact ⟨by simp, Below.refl _ _⟩

set_option maxHeartbeats 4000000 in
set_option maxRecDepth 100000 in
theorem nextset_rest (pa : Option Addr) (m pc gp b k ck n f c : Nat) (L F : Nat → Int) (w : World) (hk : k ≤ 1024) (hn : n ≤ 1024) (hf : f ≤ 1024) (hc : c ≠ 0) (hF : Follows n f c m L k F) (hp : Sl w pa m gp L) (hr : IRow w b k F) :
    Calls Yba.prog 13 #[.slice pa m pc, .slice (some ⟨b, 0, none⟩) k ck, .int .i64 n, .int .i64 f, .bool false] w fun e w' => e = .returned (.bool true) ∧ Below w.heap.size w w' := by
  have hkf := hF.few
  have hkf' : ¬ (k : Int) > f := by omega
  have HN := hF.next hc
  have hmk : m ≤ k := by omega
  have HF : Hid (Follows n f c m L k F) := hF
  have HNh : Hid (m < k ∨ m = k ∧ ∃ j, j < k ∧ (∀ i, i < j → F i = L i) ∧ L j < F j) := HN
  clear hF HN
  go_enter Yba.func13, Yba.ntmps13
  go_wp2
  go_loopw [11] (fun i wr => ∃ q : Nat, q ≤ k ∧ i = .int .i64 q ∧ Below w.heap.size w wr) (fun i _ => k - (intOf i).toNat)
  case atStart => exact ⟨0, Nat.zero_le _, rfl, Below.refl _ _⟩
  case round =>
    obtain ⟨q, hq, rfl, hb⟩ := hrel
    by_cases hlt : q < k
    · have q1 := (hr.below hb).cell hlt
      have l1 : ¬ F q < 0 := by have := HF.out.low q hlt; omega
      have l2 : ¬ F q ≥ n := by have := HF.out.high q hlt; omega
      by_cases h0 : 0 < q
      · obtain ⟨p, rfl⟩ : ∃ p, q = p + 1 := ⟨q - 1, by omega⟩
        have q0 := (hr.below hb).cell (i := p) (by omega)
        have l3 : ¬ F p ≥ F (p + 1) := by have := HF.out.rise p hlt; omega
        go_wp2
        go_quiet (fail)
        go_wp2
        go_roundw
        case rel => exact ⟨p + 1 + 1, by omega, by go_num, below_drewN hb _⟩
        case measure => simp [intOf]; omega
      · obtain rfl : q = 0 := by omega
        go_wp2
        go_quiet (fail)
        go_wp2
        go_roundw
        case rel => exact ⟨1, by omega, by go_num, below_drewN hb _⟩
        case measure => simp [intOf]; omega
    · obtain rfl : q = k := by omega
      rcases HNh.out with h | ⟨rfl, j, hj, he, hg⟩
      · have h' : (q : Int) > m := by omega
        go_wp2
        go_ret
        exact ⟨rfl, hb⟩
      · obtain ⟨rfl, rp⟩ := hp.row (by omega)
        have rf := hr.below hb
        have rp' := rp.below hb
        go_wp2_with (go_at_call 22; refine (compare_calls b gp m ck pc j F L _ hk rf rp' hj he hg).mono ?_; rintro e w' ⟨rfl, rfl⟩)
        go_ret
        exact ⟨rfl, hb⟩
end Go.Proofs.Ybulkyva
