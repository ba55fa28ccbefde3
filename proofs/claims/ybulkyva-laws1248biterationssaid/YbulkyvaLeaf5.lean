import Derived.Test.YbulkyvaLeaf4
import Derived.Deep.Cut
import Derived.Deep.RegionWith
namespace Go.Proofs.Ybulkyva
open Go.RowKit
set_option linter.unusedVariables false
set_option linter.unusedSimpArgs false

theorem Below.of_drew {B : Nat} {w w' : World} (h : Below B w.drew w') : Below B w w' := ⟨h.os, h.tape, h.output, h.size, h.block⟩

theorem size_drew (w : World) : w.drew.heap.size = w.heap.size := rfl

theorem zz0 {W w1 : World} {b : Nat} {o : Obj} (hb : Below W.heap.size W w1) (h : W.heap[b]? = some o) : w1.heap[b]? = some o := (hb.block _ (blk_lt h)).trans h
theorem alloc_keep {W : World} {b : Nat} {o o' : Obj} (h : W.heap[b]? = some o) : (W.alloc o').heap[b]? = some o := (Below.heap_alloc _ _ _ (blk_lt h)).trans h
theorem blk_d1 (w : World) (o : Obj) : (w.alloc o).drew.heap[w.heap.size]? = some o := blk_new w o
theorem blk_d2 (w : World) (o o' : Obj) : ((w.alloc o).alloc o').drew.heap[w.heap.size]? = some o := alloc_keep (blk_new w o)
theorem blk_d3 (w : World) (o o' : Obj) : ((w.alloc o).alloc o').drew.heap[w.heap.size + 1]? = some o' := by
  have h := blk_new (w.alloc o) o'
  rw [World.size_alloc] at h
  exact h
theorem blk_3 (w : World) (o o' : Obj) : ((w.alloc o).alloc o').heap[w.heap.size + 1]? = some o' := by
  have h := blk_new (w.alloc o) o'
  rw [World.size_alloc] at h
  exact h
/-- Two false bools. -/
abbrev Z66 : Obj := .cells #[.bool false, .bool false] 66

theorem blk_two {w : World} {g : Nat} {p q : Bool} (h : w.heap[g]? = some Z66) : ((w.setCell ⟨g, 0, none⟩ (.bool p)).setCell ⟨g, 1, none⟩ (.bool q)).heap[g]? = some (.cells #[.bool p, .bool q] 66) := blk_set (blk_set h 0 _) 1 _

/-! ### iteration (27) -/
set_option maxHeartbeats 4000000 in
set_option maxRecDepth 100000 in
theorem iter_calls (gv b k ck n : Nat) (inp st : Value) (fa : Option Addr) (fl fc : Nat) (Fa : Nat → Bool) (z : Int) (b1 b2 : Bool) (F : Nat → Int) (sa ta : Option Addr) (sc tc g0 g1 : Nat) (f0 f1 : Nat → Int) (w : World)
    (hk : k ≤ 1024) (hn : n ≤ 1024) (hf : fl ≤ maxLen) (hM : Marks w fa fl fc n Fa) (hfa : ∀ b o, fa = some ⟨b, o, none⟩ → b ≠ gv) (hbg : b ≠ gv)
    (hi : w.heap[gv]? = some (.cells #[inp, .slice fa fl fc, st, .int .i64 z, .bool b1, .bool b2] 88)) (hF : IRow w b k F) (hlo : ∀ i, i < k → 0 ≤ F i) (hhi : ∀ i, i < k → F i < n)
    (h0 : Sl w sa n g0 f0) (h1 : Sl w ta n g1 f1) :
    Calls Yba.prog 27 #[.pointer (some ⟨gv, 0, none⟩), .slice (some ⟨b, 0, none⟩) k ck, .slice sa n sc, .slice ta n tc] w fun e w' => (∃ z, e = .returned z) ∧ Chg gv (fun b => b = gv) w w' ∧
      ∃ c1 c2 : Bool, w'.heap[gv]? = some (.cells #[inp, .slice fa fl fc, st, .int .i64 z, .bool c1, .bool c2] 88) := by
  have q0 := cells_at (i := 0) hi rfl
  have q1 := cells_at (i := 1) hi rfl
  have q2 := cells_at (i := 2) hi rfl
  have hgl := blk_lt hi
  have HI : Hid (w.heap[gv]? = some (.cells #[inp, .slice fa fl fc, st, .int .i64 z, .bool b1, .bool b2] 88)) := hi
  clear hi
  have K1 : Hid (∀ W, Below w.heap.size w W → Calls Yba.prog 18 #[.agg #[inp, .slice fa fl fc, st], .slice sa n sc] W fun e w' =>
      e = .returned (.agg #[.bool (heldB f0 Fa 0 n), .bool (heldB f0 Fa 1 n)]) ∧ Below W.heap.size W w' ∧ Below w.heap.size w w') := fun W hb => (held_sl inp st fa fl fc n Fa sa sc g0 f0 W hf hn (hM.below hb) (h0.below hb)).mono (fun e w' h => ⟨h.1, h.2, hb.trans (h.2.mono hb.size)⟩)
  have K2 : Hid (∀ W, Below w.heap.size w W → Calls Yba.prog 18 #[.agg #[inp, .slice fa fl fc, st], .slice ta n tc] W fun e w' =>
      e = .returned (.agg #[.bool (heldB f1 Fa 0 n), .bool (heldB f1 Fa 1 n)]) ∧ Below W.heap.size W w' ∧ Below w.heap.size w w') := fun W hb => (held_sl inp st fa fl fc n Fa ta tc g1 f1 W hf hn (hM.below hb) (h1.below hb)).mono (fun e w' h => ⟨h.1, h.2, hb.trans (h.2.mono hb.size)⟩)
  have r0 := Below.refl w.heap.size w
  have n0 : ¬ gv = w.heap.size := by omega
  have n0' : ¬ gv = w.heap.size + 1 := by omega
  go_enter Yba.func27, Yba.ntmps27
  go_wp2
  go_cut [8, 9] from 12 (fun s8 s9 wc => ∃ p8 p9, s8 = .pointer (some ⟨p8, 0, none⟩) ∧ s9 = .pointer (some ⟨p9, 0, none⟩) ∧ w.heap.size ≤ p8 ∧ w.heap.size ≤ p9 ∧ Below w.heap.size w wc ∧
    wc.heap[p8]? = some (.cells #[.bool (heldB f0 Fa 0 n), .bool (heldB f0 Fa 1 n)] 66) ∧ wc.heap[p9]? = some (.cells #[.bool (heldB f1 Fa 0 n), .bool (heldB f1 Fa 1 n)] 66))
  case first =>
    go_region_held3 (fun w' => w'.cell? ⟨gv, 0, none⟩ = some inp ∧ w'.cell? ⟨gv, 1, none⟩ = some (.slice fa fl fc) ∧ w'.cell? ⟨gv, 2, none⟩ = some st) (first | go_keep | (refine ⟨cells_at (t := 88) (c := #[inp, .slice fa fl fc, st, .int .i64 z, .bool b1, .bool b2]) ?_ rfl, cells_at (t := 88) (c := #[inp, .slice fa fl fc, st, .int .i64 z, .bool b1, .bool b2]) ?_ rfl, cells_at (t := 88) (c := #[inp, .slice fa fl fc, st, .int .i64 z, .bool b1, .bool b2]) ?_ rfl⟩ <;> (repeat (first | with_reducible exact e2 | with_reducible exact e1 | with_reducible refine alloc_keep ?_ | with_reducible refine (Below.heap_setCell _ _ _ _ (by show gv ≠ _; omega)).trans ?_ | exact HI.out))))
      (first
        | (go_at_call 18; with_reducible (refine (K1.out _ ?_).mono ?_); (repeat (first | with_reducible exact r0 | with_reducible refine Below.drew ?_ | with_reducible refine Below.alloc ?_ (by (try simp only [size_drew, World.size_alloc]); omega) _)); rintro e w1 ⟨rfl, hb1, hc1⟩; have hs1 := hb1.size; (try simp only [size_drew, World.size_alloc] at hs1); have e1 := (hc1.block gv hgl).trans HI.out; have c0 := cells_at (i := 0) (v := inp) e1 rfl; have c1 := cells_at (i := 1) (v := .slice fa fl fc) e1 rfl; have c2 := cells_at (i := 2) (v := st) e1 rfl; (have : ¬ gv = w1.heap.size := by omega); (have : ¬ gv = w1.heap.size + 1 := by omega); (try (have : ¬ w.heap.size = w1.heap.size := by omega)); (try (have : ¬ w1.heap.size = w.heap.size := by omega)); (try (have : ¬ w.heap.size + 1 = w1.heap.size := by omega)); (try (have : ¬ w1.heap.size = w.heap.size + 1 := by omega)); (try (have B0 : w1.heap[w.heap.size]? = some Z66 := zz0 hb1 (blk_d1 w Z66))); (try (have B0 : w1.heap[w.heap.size]? = some Z66 := zz0 hb1 (blk_d2 w Z66 Z66); have B1 : w1.heap[w.heap.size + 1]? = some Z66 := zz0 hb1 (blk_d3 w Z66 Z66))))
        | (go_at_call 18; with_reducible (refine (K2.out _ ?_).mono ?_); (repeat (first | with_reducible exact hc1 | with_reducible refine Below.drew ?_ | with_reducible refine Below.alloc ?_ (by (try simp only [size_drew, World.size_alloc]); omega) _)); rintro e w2 ⟨rfl, hb2, hc2⟩; have hs2 := hb2.size; (try simp only [size_drew, World.size_alloc] at hs2); have e2 := (hc2.block gv hgl).trans HI.out; have d0 := cells_at (i := 0) (v := inp) e2 rfl; have d1 := cells_at (i := 1) (v := .slice fa fl fc) e2 rfl; have d2 := cells_at (i := 2) (v := st) e2 rfl; have m0 := fun o => cells_at (i := 0) (v := inp) (alloc_keep (o' := o) e2) rfl; have m1 := fun o => cells_at (i := 1) (v := .slice fa fl fc) (alloc_keep (o' := o) e2) rfl; have m2 := fun o => cells_at (i := 2) (v := st) (alloc_keep (o' := o) e2) rfl; (have : ¬ gv = w2.heap.size := by omega); (have : ¬ gv = w2.heap.size + 1 := by omega); (try (have : ¬ w.heap.size = w2.heap.size := by omega)); (try (have : ¬ w2.heap.size = w.heap.size := by omega)); (try (have : ¬ w.heap.size + 1 = w2.heap.size := by omega)); (try (have : ¬ w2.heap.size = w.heap.size + 1 := by omega)); (try (have : ¬ w1.heap.size = w2.heap.size := by omega)); (try (have : ¬ w2.heap.size = w1.heap.size := by omega)); (try (have : ¬ w1.heap.size + 1 = w2.heap.size := by omega)); (try (have : ¬ w2.heap.size = w1.heap.size + 1 := by omega)); (try (with_reducible (have C0 := zz0 hb2 B0))); (try (with_reducible (have C1 := zz0 hb2 B1))); (try (with_reducible (have C0 := zz0 hb2 (alloc_keep B0)))); (try (with_reducible (have D0 : w2.heap[w1.heap.size]? = some Z66 := zz0 hb2 (blk_new w1 _)))); (try (with_reducible (have D0 : w2.heap[w1.heap.size]? = some Z66 := zz0 hb2 (alloc_keep (blk_new w1 _))); have D1 : w2.heap[w1.heap.size + 1]? = some Z66 := zz0 hb2 (blk_3 w1 Z66 Z66))); (try (have ka1 := fun o => cells_at (i := 0) (v := .bool false) (alloc_keep (o' := o) C0) rfl; have ka2 := fun o => cells_at (i := 1) (v := .bool false) (alloc_keep (o' := o) C0) rfl; have ka3 := fun o => frozen_at (alloc_keep (o' := o) C0) 0; have ka4 := fun o => frozen_at (alloc_keep (o' := o) C0) 1)); (try (have kb1 := fun o => cells_at (i := 0) (v := .bool false) (alloc_keep (o' := o) C1) rfl; have kb2 := fun o => cells_at (i := 1) (v := .bool false) (alloc_keep (o' := o) C1) rfl; have kb3 := fun o => frozen_at (alloc_keep (o' := o) C1) 0; have kb4 := fun o => frozen_at (alloc_keep (o' := o) C1) 1)); (try (have kc1 := fun o => cells_at (i := 0) (v := .bool false) (alloc_keep (o' := o) D0) rfl; have kc2 := fun o => cells_at (i := 1) (v := .bool false) (alloc_keep (o' := o) D0) rfl; have kc3 := fun o => frozen_at (alloc_keep (o' := o) D0) 0; have kc4 := fun o => frozen_at (alloc_keep (o' := o) D0) 1)); (try (have kd1 := fun o => cells_at (i := 0) (v := .bool false) (alloc_keep (o' := o) D1) rfl; have kd2 := fun o => cells_at (i := 1) (v := .bool false) (alloc_keep (o' := o) D1) rfl; have kd3 := fun o => frozen_at (alloc_keep (o' := o) D1) 0; have kd4 := fun o => frozen_at (alloc_keep (o' := o) D1) 1)); (try (have x1 := cells_at (i := 0) (v := .bool false) C0 rfl; have x2 := cells_at (i := 1) (v := .bool false) C0 rfl; have x3 := frozen_at C0 0; have x4 := frozen_at C0 1)); (try (have y1 := cells_at (i := 0) (v := .bool false) C1 rfl; have y2 := cells_at (i := 1) (v := .bool false) C1 rfl; have y3 := frozen_at C1 0; have y4 := frozen_at C1 1)); (try (have u1 := cells_at (i := 0) (v := .bool false) D0 rfl; have u2 := cells_at (i := 1) (v := .bool false) D0 rfl; have u3 := frozen_at D0 0; have u4 := frozen_at D0 1)); (try (have v1 := cells_at (i := 0) (v := .bool false) D1 rfl; have v2 := cells_at (i := 1) (v := .bool false) D1 rfl; have v3 := frozen_at D1 0; have v4 := frozen_at D1 1)))
        | fail)
    all_goals (go_wp2_with fail; go_meet)
    all_goals refine ⟨_, _, rfl, rfl, ?_, ?_, ?_, ?_, ?_⟩
    all_goals first
      | omega
      | ((repeat (first | with_reducible exact hc2 | with_reducible refine Below.drew ?_ | with_reducible refine Below.alloc ?_ (by (try simp only [size_drew, World.size_alloc]); omega) _ | with_reducible refine Below.setCell ?_ (by (try dsimp only); omega) _)); done)
      | ((repeat (first | with_reducible exact blk_new _ _ | with_reducible exact blk_3 _ _ _ | with_reducible exact C0 | with_reducible exact C1 | with_reducible exact D0 | with_reducible exact D1 | with_reducible refine alloc_keep ?_ | with_reducible refine blk_two ?_ | with_reducible refine (Below.heap_setCell _ _ _ _ (by (try dsimp only); omega)).trans ?_)); done)
      | skip
  case rest =>
    obtain ⟨p8, p9, rfl, rfl, hp8, hp9, hB, E8, E9⟩ := hcut
    have G := (hB.block gv hgl).trans HI.out
    have hs := hB.size
    have x5 := cells_at (i := 5) (v := .bool b2) G rfl
    have y5 := frozen_at G 5
    have x0 := cells_at (i := 0) (v := .bool (heldB f0 Fa 0 n)) E8 rfl
    have x1 := cells_at (i := 1) (v := .bool (heldB f0 Fa 1 n)) E8 rfl
    have z0 := cells_at (i := 0) (v := .bool (heldB f1 Fa 0 n)) E9 rfl
    have z1 := cells_at (i := 1) (v := .bool (heldB f1 Fa 1 n)) E9 rfl
    have ng9 : gv ≠ p9 := by omega
    have hl9 := blk_lt E9
    have x3 := cells_at (i := 3) (v := .int .i64 z) G rfl
    go_upto_region 1 with fail
    go_cut [9] from 12 (fun s9 wq => s9 = .pointer (some ⟨p9, 0, none⟩) ∧ ∃ c2 : Bool, Chg gv (fun b => b = gv) w wq ∧ wq.heap[gv]? = some (.cells #[inp, .slice fa fl fc, st, .int .i64 z, .bool b1, .bool c2] 88) ∧ wq.heap[p9]? = some (.cells #[.bool (heldB f1 Fa 0 n), .bool (heldB f1 Fa 1 n)] 66))
    case first =>
      cases b2
      · go_wp2
        go_meet
        case rel => exact ⟨rfl, false, (Chg.of_below (X := fun b => b = gv) hB (Nat.le_of_lt hgl)).setCell (p := ⟨gv, 5, none⟩) (Nat.le_refl _) (.inl rfl) _, blk_set G 5 _, (Below.heap_setCell _ _ _ _ (by (try dsimp only); omega)).trans E9⟩
      · go_wp2_with (go_at_call 35; refine (within_calls _ _ _ _ _).mono ?_; rintro e w3 ⟨rfl, hb3⟩; have G3 := zz0 hb3 G; have x5' := cells_at (i := 5) (v := .bool true) G3 rfl; have y5' := frozen_at G3 5)
        go_meet
        case rel => exact ⟨rfl, _, (Chg.of_below (X := fun b => b = gv) (hB.trans (hb3.mono hs)) (Nat.le_of_lt hgl)).setCell (p := ⟨gv, 5, none⟩) (Nat.le_refl _) (.inl rfl) _, blk_set G3 5 _, (Below.heap_setCell _ _ _ _ (by (try dsimp only); omega)).trans (zz0 hb3 E9)⟩
    case rest =>
      obtain ⟨rfl, c2, hC, G1, E1⟩ := hcut
      clear x3 z0 z1 x0 x1 x5 y5 E8 E9 G hB hl9
      have x3 := cells_at (i := 3) (v := .int .i64 z) G1 rfl
      have z0 := cells_at (i := 0) (v := .bool (heldB f1 Fa 0 n)) E1 rfl
      have z1 := cells_at (i := 1) (v := .bool (heldB f1 Fa 1 n)) E1 rfl
      have hM1 := hM.chg hC (fun b o e => by simpa using hfa b o e)
      have hF1 : IRow wc b k F := hF.of_block (hC.same b hF.lt (by simpa using hbg))
      by_cases hkz : (k : Int) = z
      · subst hkz
        go_wp2_with fail
        go_loopw [45] (fun i wr => ∃ q : Nat, q ≤ k ∧ i = .int .i64 q ∧ Below wc.heap.size wc wr) (fun i _ => k - (intOf i).toNat)
        case atStart => exact ⟨0, Nat.zero_le _, rfl, Below.refl _ _⟩
        case round =>
          obtain ⟨q, hq, rfl, hb⟩ := hrel
          have Gr := zz0 hb G1
          have Er := zz0 hb E1
          by_cases hlt : q < k
          · have cF := (hF1.below hb).cell hlt
            have t0 := cells_at (i := 0) (v := inp) Gr rfl
            have t1 := cells_at (i := 1) (v := .slice fa fl fc) Gr rfl
            have t2 := cells_at (i := 2) (v := st) Gr rfl
            have hlo' := hlo q hlt
            have hhi' := hhi q hlt
            obtain ⟨m, hm⟩ := Int.eq_ofNat_of_zero_le hlo'
            rw [hm] at cF hhi'
            have hmn : m < n := by omega
            cases hFm : Fa m
            · go_wp2_with (go_at_call 26; refine (faulty_calls inp st fa fl fc n Fa m _ hmn hf (hM1.below hb)).mono ?_; rintro e w4 ⟨rfl, hb4⟩; rw [hFm])
              refine bodyPost_ret (results_none rfl _ _ _) rfl ?_
              exact ⟨⟨_, rfl⟩, hC.trans (Chg.of_below (hb.trans (hb4.mono hb.size)) (Nat.le_trans (Nat.le_of_lt hgl) hC.size)), b1, c2, zz0 hb4 Gr⟩
            · go_wp2_with (go_at_call 26; refine (faulty_calls inp st fa fl fc n Fa m _ hmn hf (hM1.below hb)).mono ?_; rintro e w4 ⟨rfl, hb4⟩; rw [hFm])
              go_roundw
              case rel => exact ⟨q + 1, by omega, by go_num, hb.trans (hb4.mono hb.size)⟩
              case measure => simp [intOf]; omega
          · obtain rfl : q = k := by omega
            have t4 := cells_at (i := 4) (v := .bool b1) Gr rfl
            have u4 := frozen_at Gr 4
            have r0' := cells_at (i := 0) (v := .bool (heldB f1 Fa 0 n)) Er rfl
            have r1' := cells_at (i := 1) (v := .bool (heldB f1 Fa 1 n)) Er rfl
            go_wp2
            all_goals go_end0
            all_goals exact ⟨⟨_, rfl⟩, (hC.trans (Chg.of_below hb (Nat.le_trans (Nat.le_of_lt hgl) hC.size))).setCell (p := ⟨gv, 4, none⟩) (Nat.le_refl _) (.inl rfl) _, _, c2, blk_set Gr 4 _⟩
      · have hkz' : ((k : Int) == z) = false := by simp [hkz]
        go_wp2
        refine bodyPost_ret (results_none rfl _ _ _) rfl ?_
        exact ⟨⟨_, rfl⟩, hC, b1, c2, G1⟩
end Go.Proofs.Ybulkyva
