import Derived.Test.YbulkyvaLeaf5
import Derived.Deep.RegionWith
namespace Go.Proofs.Ybulkyva
open Go.RowKit
set_option linter.unusedVariables false
set_option linter.unusedSimpArgs false

/-- Does every unmarked node of the first n hold a bit? -/
def termB (f : Nat → Int) (Fa : Nat → Bool) : Nat → Bool
  | 0 => true
  | n + 1 => termB f Fa n && (Fa n || f n == 0 || f n == 1)
/-- The decisions: -1 at the marked ones of the first q. -/
def decs (f : Nat → Int) (Fa : Nat → Bool) (q i : Nat) : Int := if i < q ∧ Fa i = true then -1 else f i
theorem decs_mark (f : Nat → Int) (Fa : Nat → Bool) (q : Nat) (h : Fa q = true) : (fun j => if j = q then (-1 : Int) else decs f Fa q j) = decs f Fa (q + 1) := by
  funext j
  unfold decs
  by_cases e : j = q
  · subst e; simp [h]
  · by_cases l : j < q
    · have : j < q + 1 := by omega
      simp [e, l, this]
    · have : ¬ j < q + 1 := by omega
      simp [e, l, this]
theorem decs_skip (f : Nat → Int) (Fa : Nat → Bool) (q : Nat) (h : Fa q = false) : decs f Fa q = decs f Fa (q + 1) := by
  funext j
  unfold decs
  by_cases e : j = q
  · subst e; simp [h]
  · by_cases l : j < q
    · have : j < q + 1 := by omega
      simp [l, this]
    · have : ¬ j < q + 1 := by omega
      simp [l, this]
theorem decs_at (f : Nat → Int) (Fa : Nat → Bool) (q : Nat) : decs f Fa q q = f q := by simp [decs]
theorem decs_zero (f : Nat → Int) (Fa : Nat → Bool) : decs f Fa 0 = f := by funext j; simp [decs]

/-- The blocks of outcome's run. -/
structure OL (A gd n : Nat) (s0 s1 s2 : Value) (da : Option Addr) (D : Nat → Int) (W : World) : Prop where
  bs : W.heap[A]? = some (.cells #[s0, s1, s2] 51)
  bo : W.heap[A + 1]? = some (.cells #[.slice none 0 0, .bool false, .bool false, .bool false, .bool false, .bool false, .int .i64 0, .int .i64 0, .int .i64 0] 61)
  dr : Sl W da n gd D

theorem OL.below {A gd n : Nat} {s0 s1 s2 : Value} {da : Option Addr} {D : Nat → Int} {W W' : World} (h : OL A gd n s0 s1 s2 da D W) (hb : Below W.heap.size W W') : OL A gd n s0 s1 s2 da D W' :=
  ⟨zz0 hb h.bs, zz0 hb h.bo, h.dr.below hb⟩

/-- Nine stores into one block. -/
abbrev set9 (w : World) (b : Nat) (v0 v1 v2 v3 v4 v5 v6 v7 v8 : Value) : World := ((((((((w.setCell ⟨b, 0, none⟩ v0).setCell ⟨b, 1, none⟩ v1).setCell ⟨b, 2, none⟩ v2).setCell ⟨b, 3, none⟩ v3).setCell ⟨b, 4, none⟩ v4).setCell ⟨b, 5, none⟩ v5).setCell ⟨b, 6, none⟩ v6).setCell ⟨b, 7, none⟩ v7).setCell ⟨b, 8, none⟩ v8
section
variable {w : World} {b p : Nat} {v0 v1 v2 v3 v4 v5 v6 v7 v8 : Value}
theorem set9_blk (hp : p ≠ b) : (set9 w b v0 v1 v2 v3 v4 v5 v6 v7 v8).heap[p]? = w.heap[p]? := by
  iterate 9 rw [Below.heap_setCell _ _ _ _ hp]
theorem set9_other {o : Obj} (hp : p ≠ b) (h : w.heap[p]? = some o) : (set9 w b v0 v1 v2 v3 v4 v5 v6 v7 v8).heap[p]? = some o := (set9_blk hp).trans h
theorem set9_same {u0 u1 u2 u3 u4 u5 u6 u7 u8 : Value} {t : Nat} (h : w.heap[b]? = some (.cells #[u0, u1, u2, u3, u4, u5, u6, u7, u8] t)) : (set9 w b v0 v1 v2 v3 v4 v5 v6 v7 v8).heap[b]? = some (.cells #[v0, v1, v2, v3, v4, v5, v6, v7, v8] t) := by
  have h0 : (w.setCell ⟨b, 0, none⟩ v0).heap[b]? = some (.cells #[v0, u1, u2, u3, u4, u5, u6, u7, u8] t) := blk_set h 0 v0
  have h1 : ((w.setCell ⟨b, 0, none⟩ v0).setCell ⟨b, 1, none⟩ v1).heap[b]? = some (.cells #[v0, v1, u2, u3, u4, u5, u6, u7, u8] t) := blk_set h0 1 v1
  have h2 : (((w.setCell ⟨b, 0, none⟩ v0).setCell ⟨b, 1, none⟩ v1).setCell ⟨b, 2, none⟩ v2).heap[b]? = some (.cells #[v0, v1, v2, u3, u4, u5, u6, u7, u8] t) := blk_set h1 2 v2
  have h3 : ((((w.setCell ⟨b, 0, none⟩ v0).setCell ⟨b, 1, none⟩ v1).setCell ⟨b, 2, none⟩ v2).setCell ⟨b, 3, none⟩ v3).heap[b]? = some (.cells #[v0, v1, v2, v3, u4, u5, u6, u7, u8] t) := blk_set h2 3 v3
  have h4 : (((((w.setCell ⟨b, 0, none⟩ v0).setCell ⟨b, 1, none⟩ v1).setCell ⟨b, 2, none⟩ v2).setCell ⟨b, 3, none⟩ v3).setCell ⟨b, 4, none⟩ v4).heap[b]? = some (.cells #[v0, v1, v2, v3, v4, u5, u6, u7, u8] t) := blk_set h3 4 v4
  have h5 : ((((((w.setCell ⟨b, 0, none⟩ v0).setCell ⟨b, 1, none⟩ v1).setCell ⟨b, 2, none⟩ v2).setCell ⟨b, 3, none⟩ v3).setCell ⟨b, 4, none⟩ v4).setCell ⟨b, 5, none⟩ v5).heap[b]? = some (.cells #[v0, v1, v2, v3, v4, v5, u6, u7, u8] t) := blk_set h4 5 v5
  have h6 : (((((((w.setCell ⟨b, 0, none⟩ v0).setCell ⟨b, 1, none⟩ v1).setCell ⟨b, 2, none⟩ v2).setCell ⟨b, 3, none⟩ v3).setCell ⟨b, 4, none⟩ v4).setCell ⟨b, 5, none⟩ v5).setCell ⟨b, 6, none⟩ v6).heap[b]? = some (.cells #[v0, v1, v2, v3, v4, v5, v6, u7, u8] t) := blk_set h5 6 v6
  have h7 : ((((((((w.setCell ⟨b, 0, none⟩ v0).setCell ⟨b, 1, none⟩ v1).setCell ⟨b, 2, none⟩ v2).setCell ⟨b, 3, none⟩ v3).setCell ⟨b, 4, none⟩ v4).setCell ⟨b, 5, none⟩ v5).setCell ⟨b, 6, none⟩ v6).setCell ⟨b, 7, none⟩ v7).heap[b]? = some (.cells #[v0, v1, v2, v3, v4, v5, v6, v7, u8] t) := blk_set h6 7 v7
  have h8 : (((((((((w.setCell ⟨b, 0, none⟩ v0).setCell ⟨b, 1, none⟩ v1).setCell ⟨b, 2, none⟩ v2).setCell ⟨b, 3, none⟩ v3).setCell ⟨b, 4, none⟩ v4).setCell ⟨b, 5, none⟩ v5).setCell ⟨b, 6, none⟩ v6).setCell ⟨b, 7, none⟩ v7).setCell ⟨b, 8, none⟩ v8).heap[b]? = some (.cells #[v0, v1, v2, v3, v4, v5, v6, v7, v8] t) := blk_set h7 8 v8
  exact h8
theorem set9_chg {B : Nat} {X : Nat → Prop} {w0 : World} (h : Chg B X w0 w) (hb : B ≤ b ∧ w0.heap.size ≤ b) : Chg B X w0 (set9 w b v0 v1 v2 v3 v4 v5 v6 v7 v8) :=
  ((((((((h.setCell (p := ⟨b, 0, none⟩) hb.1 (.inr hb.2) _).setCell (p := ⟨b, 1, none⟩) hb.1 (.inr hb.2) _).setCell (p := ⟨b, 2, none⟩) hb.1 (.inr hb.2) _).setCell (p := ⟨b, 3, none⟩) hb.1 (.inr hb.2) _).setCell (p := ⟨b, 4, none⟩) hb.1 (.inr hb.2) _).setCell (p := ⟨b, 5, none⟩) hb.1 (.inr hb.2) _).setCell (p := ⟨b, 6, none⟩) hb.1 (.inr hb.2) _).setCell (p := ⟨b, 7, none⟩) hb.1 (.inr hb.2) _).setCell (p := ⟨b, 8, none⟩) hb.1 (.inr hb.2) _
end

set_option maxHeartbeats 4000000 in
set_option maxRecDepth 100000 in
theorem outcome_calls (ia da fa : Option Addr) (ic dc fl fc n gi gd : Nat) (st : Value) (Fa : Nat → Bool) (fi f : Nat → Int) (w : World)
    (hn : n ≤ 1024) (hf : fl ≤ maxLen) (hM : Marks w fa fl fc n Fa) (hfa : ∀ b o, fa = some ⟨b, o, none⟩ → b ≠ gd) (hid : 0 < n → gi ≠ gd) (hi : Sl w ia n gi fi) (hd : Sl w da n gd f) (hgd : gd ≤ w.heap.size) :
    Calls Yba.prog 36 #[.agg #[.slice ia n ic, .slice fa fl fc, st], .slice da n dc] w fun e w' =>
      e = .returned (.agg #[.slice da n dc, .bool (!(heldB (decs f Fa n) Fa 0 n && heldB (decs f Fa n) Fa 1 n)), .bool ((!heldB (decs f Fa n) Fa 0 n || heldB fi Fa 0 n) && (!heldB (decs f Fa n) Fa 1 n || heldB fi Fa 1 n)), .bool (termB f Fa n), .bool false, .bool false, .int .i64 0, .int .i64 0, .int .i64 0]) ∧
      Chg gd (fun b => b = gd) w w' ∧ Sl w' da n gd (decs f Fa n) := by
  obtain ⟨A, hA⟩ : ∃ A, A = w.heap.size := ⟨_, rfl⟩
  go_enter Yba.func36, Yba.ntmps36
  go_wp2
  rw [← hA]
  have HA : Hid (A = w.heap.size) := hA
  clear hA
  go_loopw [5, 12] (fun s i wr => ∃ q : Nat, q ≤ n ∧ i = .int .i64 q ∧ s = .bool (termB f Fa q) ∧ OL A gd n (.slice ia n ic) (.slice fa fl fc) st da (decs f Fa q) wr ∧ Chg gd (fun b => b = gd) w wr ∧ A + 2 ≤ wr.heap.size) (fun _ i _ => n - (intOf i).toNat)
  case atStart =>
    refine ⟨0, Nat.zero_le _, rfl, rfl, ⟨?_, ?_, ?_⟩, ?_, ?_⟩
    · have hA := HA.out; subst hA; exact alloc_keep (blk_new w _)
    · have hA := HA.out; subst hA; exact blk_3 w _ _
    · rw [decs_zero]; exact hd.below ((below_one w _).alloc (by simp) _)
    · exact ((Chg.refl gd (fun b => b = gd) w).alloc hgd _).alloc hgd _
    · have hA := HA.out; subst hA; simp
  case round =>
    obtain ⟨q, hq, rfl, rfl, O, hC, hz⟩ := hrel
    have hM1 := hM.chg hC (fun b o e => by simpa using hfa b o e)
    have a0 := cells_at (i := 0) (v := .slice ia n ic) O.bs rfl
    have a1 := cells_at (i := 1) (v := .slice fa fl fc) O.bs rfl
    have a2 := cells_at (i := 2) (v := st) O.bs rfl
    by_cases hlt : q < n
    · obtain ⟨hda, rD⟩ := O.dr.row (by omega)
      subst hda
      have cq := rD.cell hlt
      rw [decs_at] at cq
      cases hF : Fa q
      · have e1 := decs_skip f Fa q hF
        by_cases b0 : f q = 0
        · have t1 : termB f Fa (q + 1) = termB f Fa q := by simp [termB, hF, b0]
          have T : Hid (termB f Fa (q + 1) = termB f Fa q) := t1
          rw [b0] at cq
          clear b0 t1
          go_wp2_with (go_at_call 26; refine (faulty_calls (.slice ia n ic) st fa fl fc n Fa q _ hlt hf hM1).mono ?_; rintro e w4 ⟨rfl, hb4⟩; rw [hF])
          go_roundw
          case rel => exact ⟨q + 1, by omega, by go_num, by rw [T.out], by rw [← e1]; exact O.below hb4, hC.trans (Chg.of_below hb4 (Nat.le_trans hgd hC.size)), Nat.le_trans hz hb4.size⟩
          case measure => simp [intOf]; omega
        · by_cases b1 : f q = 1
          · have t1 : termB f Fa (q + 1) = termB f Fa q := by simp [termB, hF, b1]
            have T : Hid (termB f Fa (q + 1) = termB f Fa q) := t1
            rw [b1] at cq
            clear b1 b0 t1
            go_wp2_with (go_at_call 26; refine (faulty_calls (.slice ia n ic) st fa fl fc n Fa q _ hlt hf hM1).mono ?_; rintro e w4 ⟨rfl, hb4⟩; rw [hF])
            go_roundw
            case rel => exact ⟨q + 1, by omega, by go_num, by rw [T.out], by rw [← e1]; exact O.below hb4, hC.trans (Chg.of_below hb4 (Nat.le_trans hgd hC.size)), Nat.le_trans hz hb4.size⟩
            case measure => simp [intOf]; omega
          · have t1 : termB f Fa (q + 1) = false := by simp [termB, hF, b1, b0]
            have T : Hid (termB f Fa (q + 1) = false) := t1
            have b0' : (f q == 0) = false := by simp [b0]
            have b1' : (f q == 1) = false := by simp [b1]
            have b0n : (f q != 0) = true := by simp [b0]
            have b1n : (f q != 1) = true := by simp [b1]
            clear t1
            go_wp2_with (go_at_call 26; refine (faulty_calls (.slice ia n ic) st fa fl fc n Fa q _ hlt hf hM1).mono ?_; rintro e w4 ⟨rfl, hb4⟩; rw [hF])
            all_goals (try (exfalso; omega))
            go_roundw
            case rel => exact ⟨q + 1, by omega, by go_num, by rw [T.out], by rw [← e1]; exact O.below hb4, hC.trans (Chg.of_below hb4 (Nat.le_trans hgd hC.size)), Nat.le_trans hz hb4.size⟩
            case measure => simp [intOf]; omega
      · have e1 := decs_mark f Fa q hF
        have t1 : termB f Fa (q + 1) = termB f Fa q := by simp [termB, hF]
        have T : Hid (termB f Fa (q + 1) = termB f Fa q) := t1
        clear t1
        go_wp2_with (go_at_call 26; refine (faulty_calls (.slice ia n ic) st fa fl fc n Fa q _ hlt hf hM1).mono ?_; rintro e w4 ⟨rfl, hb4⟩; rw [hF]; have O4 := O.below hb4; have r4 := (O4.dr.row (by omega)).2; have c4 := r4.cell hlt; have k4 := r4.frozen q)
        go_roundw
        case rel =>
          have ngA : A ≠ gd := fun e => by have := HA.out; have := hd.lt (by omega); omega
          have ngA' : A + 1 ≠ gd := fun e => by have := HA.out; have := hd.lt (by omega); omega
          refine ⟨q + 1, by omega, by go_num, by rw [T.out], ⟨(Below.heap_setCell _ _ _ _ ngA).trans O4.bs, (Below.heap_setCell _ _ _ _ ngA').trans O4.bo, ?_⟩, (hC.trans (Chg.of_below hb4 (Nat.le_trans hgd hC.size))).setCell (p := ⟨gd, q, none⟩) (Nat.le_refl _) (.inl rfl) _, ?_⟩
          · rw [← e1]; exact .inr ⟨rfl, r4.set q _⟩
          · rw [World.size_setCell]; exact Nat.le_trans hz hb4.size
        case measure => simp [intOf]; omega
    · obtain rfl : q = n := by omega
      have hgl := blk_lt O.bs
      have HI : Hid (wr.heap[A]? = some (.cells #[.slice ia q ic, .slice fa fl fc, st] 51)) := O.bs
      have hi1 : Sl wr ia q gi fi := hi.of_block (fun h => hC.same gi (hi.lt h) (by simpa using hid h))
      have K1 : Hid (∀ W, Below wr.heap.size wr W → Calls Yba.prog 18 #[.agg #[.slice ia q ic, .slice fa fl fc, st], .slice ia q ic] W fun e w' =>
          e = .returned (.agg #[.bool (heldB fi Fa 0 q), .bool (heldB fi Fa 1 q)]) ∧ Below W.heap.size W w' ∧ Below wr.heap.size wr w') := fun W hb => (held_sl _ st fa fl fc q Fa ia ic gi fi W hf hn (hM1.below hb) (hi1.below hb)).mono (fun e w' h => ⟨h.1, h.2, hb.trans (h.2.mono hb.size)⟩)
      have K2 : Hid (∀ W, Below wr.heap.size wr W → Calls Yba.prog 18 #[.agg #[.slice ia q ic, .slice fa fl fc, st], .slice da q dc] W fun e w' =>
          e = .returned (.agg #[.bool (heldB (decs f Fa q) Fa 0 q), .bool (heldB (decs f Fa q) Fa 1 q)]) ∧ Below W.heap.size W w' ∧ Below wr.heap.size wr w') := fun W hb => (held_sl _ st fa fl fc q Fa da dc gd (decs f Fa q) W hf hn (hM1.below hb) (O.dr.below hb)).mono (fun e w' h => ⟨h.1, h.2, hb.trans (h.2.mono hb.size)⟩)
      have r0 := Below.refl wr.heap.size wr
      have n0 : ¬ A = wr.heap.size := by omega
      have n0' : ¬ A = wr.heap.size + 1 := by omega
      go_wp2
      go_cut [8, 9] from 13 (fun s8 s9 wc => ∃ p8 p9, s8 = .pointer (some ⟨p8, 0, none⟩) ∧ s9 = .pointer (some ⟨p9, 0, none⟩) ∧ wr.heap.size ≤ p8 ∧ wr.heap.size ≤ p9 ∧ Below wr.heap.size wr wc ∧
        wc.heap[p8]? = some (.cells #[.bool (heldB fi Fa 0 q), .bool (heldB fi Fa 1 q)] 66) ∧ wc.heap[p9]? = some (.cells #[.bool (heldB (decs f Fa q) Fa 0 q), .bool (heldB (decs f Fa q) Fa 1 q)] 66))
      case first =>
        go_region_held3 (fun w' => w'.cell? ⟨A, 0, none⟩ = some (.slice ia q ic) ∧ w'.cell? ⟨A, 1, none⟩ = some (.slice fa fl fc) ∧ w'.cell? ⟨A, 2, none⟩ = some st) (first | go_keep | (refine ⟨cells_at (t := 51) (c := #[.slice ia q ic, .slice fa fl fc, st]) ?_ rfl, cells_at (t := 51) (c := #[.slice ia q ic, .slice fa fl fc, st]) ?_ rfl, cells_at (t := 51) (c := #[.slice ia q ic, .slice fa fl fc, st]) ?_ rfl⟩ <;> (repeat (first | with_reducible exact e2 | with_reducible exact e1 | with_reducible refine alloc_keep ?_ | with_reducible refine (Below.heap_setCell _ _ _ _ (by show A ≠ _; omega)).trans ?_ | exact HI.out))))
          (first
            | (go_at_call 18; with_reducible (refine (K1.out _ ?_).mono ?_); (repeat (first | with_reducible exact r0 | with_reducible refine Below.drew ?_ | with_reducible refine Below.alloc ?_ (by (try simp only [size_drew, World.size_alloc]); omega) _)); rintro e w1 ⟨rfl, hb1, hc1⟩; have hs1 := hb1.size; (try simp only [size_drew, World.size_alloc] at hs1); have e1 := (hc1.block A hgl).trans HI.out; have c0 := cells_at (i := 0) (v := .slice ia q ic) e1 rfl; have c1 := cells_at (i := 1) (v := .slice fa fl fc) e1 rfl; have c2 := cells_at (i := 2) (v := st) e1 rfl; (have : ¬ A = w1.heap.size := by omega); (have : ¬ A = w1.heap.size + 1 := by omega); (try (have : ¬ wr.heap.size = w1.heap.size := by omega)); (try (have : ¬ w1.heap.size = wr.heap.size := by omega)); (try (have : ¬ wr.heap.size + 1 = w1.heap.size := by omega)); (try (have : ¬ w1.heap.size = wr.heap.size + 1 := by omega)); (try (have B0 : w1.heap[wr.heap.size]? = some Z66 := zz0 hb1 (blk_d1 wr Z66))); (try (have B0 : w1.heap[wr.heap.size]? = some Z66 := zz0 hb1 (blk_d2 wr Z66 Z66); have B1 : w1.heap[wr.heap.size + 1]? = some Z66 := zz0 hb1 (blk_d3 wr Z66 Z66))))
            | (go_at_call 18; with_reducible (refine (K2.out _ ?_).mono ?_); (repeat (first | with_reducible exact hc1 | with_reducible refine Below.drew ?_ | with_reducible refine Below.alloc ?_ (by (try simp only [size_drew, World.size_alloc]); omega) _)); rintro e w2 ⟨rfl, hb2, hc2⟩; have hs2 := hb2.size; (try simp only [size_drew, World.size_alloc] at hs2); have e2 := (hc2.block A hgl).trans HI.out; have d0 := cells_at (i := 0) (v := .slice ia q ic) e2 rfl; have d1 := cells_at (i := 1) (v := .slice fa fl fc) e2 rfl; have d2 := cells_at (i := 2) (v := st) e2 rfl; have m0 := fun o => cells_at (i := 0) (v := .slice ia q ic) (alloc_keep (o' := o) e2) rfl; have m1 := fun o => cells_at (i := 1) (v := .slice fa fl fc) (alloc_keep (o' := o) e2) rfl; have m2 := fun o => cells_at (i := 2) (v := st) (alloc_keep (o' := o) e2) rfl; (have : ¬ A = w2.heap.size := by omega); (have : ¬ A = w2.heap.size + 1 := by omega); (try (have : ¬ wr.heap.size = w2.heap.size := by omega)); (try (have : ¬ w2.heap.size = wr.heap.size := by omega)); (try (have : ¬ wr.heap.size + 1 = w2.heap.size := by omega)); (try (have : ¬ w2.heap.size = wr.heap.size + 1 := by omega)); (try (have : ¬ w1.heap.size = w2.heap.size := by omega)); (try (have : ¬ w2.heap.size = w1.heap.size := by omega)); (try (have : ¬ w1.heap.size + 1 = w2.heap.size := by omega)); (try (have : ¬ w2.heap.size = w1.heap.size + 1 := by omega)); (try (with_reducible (have C0 := zz0 hb2 B0))); (try (with_reducible (have C1 := zz0 hb2 B1))); (try (with_reducible (have C0 := zz0 hb2 (alloc_keep B0)))); (try (with_reducible (have D0 : w2.heap[w1.heap.size]? = some Z66 := zz0 hb2 (blk_new w1 _)))); (try (with_reducible (have D0 : w2.heap[w1.heap.size]? = some Z66 := zz0 hb2 (alloc_keep (blk_new w1 _))); have D1 : w2.heap[w1.heap.size + 1]? = some Z66 := zz0 hb2 (blk_3 w1 Z66 Z66))); (try (have ka1 := fun o => cells_at (i := 0) (v := .bool false) (alloc_keep (o' := o) C0) rfl; have ka2 := fun o => cells_at (i := 1) (v := .bool false) (alloc_keep (o' := o) C0) rfl; have ka3 := fun o => frozen_at (alloc_keep (o' := o) C0) 0; have ka4 := fun o => frozen_at (alloc_keep (o' := o) C0) 1)); (try (have kb1 := fun o => cells_at (i := 0) (v := .bool false) (alloc_keep (o' := o) C1) rfl; have kb2 := fun o => cells_at (i := 1) (v := .bool false) (alloc_keep (o' := o) C1) rfl; have kb3 := fun o => frozen_at (alloc_keep (o' := o) C1) 0; have kb4 := fun o => frozen_at (alloc_keep (o' := o) C1) 1)); (try (have kc1 := fun o => cells_at (i := 0) (v := .bool false) (alloc_keep (o' := o) D0) rfl; have kc2 := fun o => cells_at (i := 1) (v := .bool false) (alloc_keep (o' := o) D0) rfl; have kc3 := fun o => frozen_at (alloc_keep (o' := o) D0) 0; have kc4 := fun o => frozen_at (alloc_keep (o' := o) D0) 1)); (try (have kd1 := fun o => cells_at (i := 0) (v := .bool false) (alloc_keep (o' := o) D1) rfl; have kd2 := fun o => cells_at (i := 1) (v := .bool false) (alloc_keep (o' := o) D1) rfl; have kd3 := fun o => frozen_at (alloc_keep (o' := o) D1) 0; have kd4 := fun o => frozen_at (alloc_keep (o' := o) D1) 1)); (try (have x1 := cells_at (i := 0) (v := .bool false) C0 rfl; have x2 := cells_at (i := 1) (v := .bool false) C0 rfl; have x3 := frozen_at C0 0; have x4 := frozen_at C0 1)); (try (have y1 := cells_at (i := 0) (v := .bool false) C1 rfl; have y2 := cells_at (i := 1) (v := .bool false) C1 rfl; have y3 := frozen_at C1 0; have y4 := frozen_at C1 1)); (try (have u1 := cells_at (i := 0) (v := .bool false) D0 rfl; have u2 := cells_at (i := 1) (v := .bool false) D0 rfl; have u3 := frozen_at D0 0; have u4 := frozen_at D0 1)); (try (have v1 := cells_at (i := 0) (v := .bool false) D1 rfl; have v2 := cells_at (i := 1) (v := .bool false) D1 rfl; have v3 := frozen_at D1 0; have v4 := frozen_at D1 1)))
            | fail)
        all_goals (go_wp2_with fail; go_meet)
        all_goals refine ⟨_, _, rfl, rfl, ?_, ?_, ?_, ?_, ?_⟩
        all_goals first
          | omega
          | ((repeat (first | with_reducible exact hc2 | with_reducible refine Below.drew ?_ | with_reducible refine Below.alloc ?_ (by (try simp only [size_drew, World.size_alloc]); omega) _ | with_reducible refine Below.setCell ?_ (by (try dsimp only); omega) _)); done)
          | ((repeat (first | with_reducible exact blk_new _ _ | with_reducible exact blk_3 _ _ _ | with_reducible exact C0 | with_reducible exact C1 | with_reducible exact D0 | with_reducible exact D1 | with_reducible refine alloc_keep ?_ | with_reducible refine blk_two ?_ | with_reducible refine (Below.heap_setCell _ _ _ _ (by (try dsimp only); omega)).trans ?_)); done)
          | skip
      case rest =>
        obtain ⟨p8, p9, rfl, rfl, hp8, hp9, hB, E8, E9⟩ := hcut
        have O5 := O.below hB
        have hs := hB.size
        have x0 := cells_at (i := 0) (v := .bool (heldB fi Fa 0 q)) E8 rfl
        have x1 := cells_at (i := 1) (v := .bool (heldB fi Fa 1 q)) E8 rfl
        have z0 := cells_at (i := 0) (v := .bool (heldB (decs f Fa q) Fa 0 q)) E9 rfl
        have z1 := cells_at (i := 1) (v := .bool (heldB (decs f Fa q) Fa 1 q)) E9 rfl
        cases hh0 : heldB (decs f Fa q) Fa 0 q
        · rw [hh0] at z0 E9
          go_wp2
          refine wp_region_noPanic ?_
          refine wp_region_held_drew (S := fun w' => w'.cell? ⟨p8, 0, none⟩ = some (.bool (heldB fi Fa 0 q)) ∧ w'.cell? ⟨p8, 1, none⟩ = some (.bool (heldB fi Fa 1 q)) ∧ w'.cell? ⟨p9, 0, none⟩ = some (.bool false) ∧ w'.cell? ⟨p9, 1, none⟩ = some (.bool (heldB (decs f Fa q) Fa 1 q))) (by kernel_rfl) ⟨x0, x1, z0, z1⟩ (fun hHeld => ?_)
          refine wpAnyH_take (i := 0) (v := ?_) rfl (by kernel_rfl) (by kernel_rfl) (by kernel_rfl) (fun _ _ _ h => h) (Or.inl ⟨by rfl, ?y0⟩) (by assumption) ?r0
          case y0 => (intro w hSw; (try dsimp only at hSw); go_simp); try with_reducible rfl
          simp only [Act.put, List.setIfInBounds_toArray, List.set_cons_zero, List.set_cons_succ]
          refine wpAnyH_take (i := 1) (v := ?_) rfl (by kernel_rfl) (by kernel_rfl) (by kernel_rfl) (fun _ _ _ h => h) (Or.inl ⟨by rfl, ?y1⟩) (by assumption) ?r1
          case y1 => (intro w hSw; (try dsimp only at hSw); go_simp); try with_reducible rfl
          simp only [Act.put, List.setIfInBounds_toArray, List.set_cons_zero, List.set_cons_succ]
          refine wpAnyH_take (i := 2) (v := ?_) rfl (by kernel_rfl) (by kernel_rfl) (by kernel_rfl) (fun _ _ _ h => h) (Or.inl ⟨by rfl, ?y2⟩) (by assumption) ?r2
          case y2 => (intro w hSw; (try dsimp only at hSw); go_simp); try with_reducible rfl
          simp only [Act.put, List.setIfInBounds_toArray, List.set_cons_zero, List.set_cons_succ]
          refine wpAnyH_take (i := 3) (v := ?_) rfl (by kernel_rfl) (by kernel_rfl) (by kernel_rfl) (fun _ _ _ h => h) (Or.inl ⟨by rfl, ?y3⟩) (by assumption) ?r3
          case y3 => (intro w hSw; (try dsimp only at hSw); go_simp); try with_reducible rfl
          simp only [Act.put, List.setIfInBounds_toArray, List.set_cons_zero, List.set_cons_succ]
          refine wpAnyH_take (i := 4) (v := undef) rfl (by kernel_rfl) (by kernel_rfl) (by kernel_rfl) (fun _ _ _ h => h) (Or.inr ⟨by rfl, rfl⟩) (by assumption) ?r4
          simp only [Act.put, List.setIfInBounds_toArray, List.set_cons_zero, List.set_cons_succ]
          refine wpAnyH_take (i := 5) (v := undef) rfl (by kernel_rfl) (by kernel_rfl) (by kernel_rfl) (fun _ _ _ h => h) (Or.inr ⟨by rfl, rfl⟩) (by assumption) ?r5
          simp only [Act.put, List.setIfInBounds_toArray, List.set_cons_zero, List.set_cons_succ]
          refine wpAnyH_take (i := 6) (v := ?_) rfl (by kernel_rfl) (by kernel_rfl) (by kernel_rfl) (fun _ _ _ h => h) (Or.inl ⟨by rfl, ?y6⟩) (by assumption) ?r6
          case y6 => (intro w hSw; (try dsimp only at hSw); go_simp); try with_reducible rfl
          simp only [Act.put, List.setIfInBounds_toArray, List.set_cons_zero, List.set_cons_succ]
          refine wpAnyH_take (i := 7) (v := ?_) rfl (by kernel_rfl) (by kernel_rfl) (by kernel_rfl) (fun _ _ _ h => h) (Or.inl ⟨by rfl, ?y7⟩) (by assumption) ?r7
          case y7 => (intro w hSw; (try dsimp only at hSw); go_simp); try with_reducible rfl
          simp only [Act.put, List.setIfInBounds_toArray, List.set_cons_zero, List.set_cons_succ]
          refine wpAnyH_take (i := 8) (v := ?_) rfl (by kernel_rfl) (by kernel_rfl) (by kernel_rfl) (fun _ _ _ h => h) (Or.inl ⟨by rfl, ?y8⟩) (by assumption) ?r8
          case y8 => (intro w hSw; (try dsimp only at hSw); go_simp); try with_reducible rfl
          simp only [Act.put, List.setIfInBounds_toArray, List.set_cons_zero, List.set_cons_succ]
          refine wpAnyH_take (i := 9) (v := ?_) rfl (by kernel_rfl) (by kernel_rfl) (by kernel_rfl) (fun _ _ _ h => h) (Or.inl ⟨by rfl, ?y9⟩) (by assumption) ?r9
          case y9 => (intro w hSw; (try dsimp only at hSw); go_simp); try with_reducible rfl
          simp only [Act.put, List.setIfInBounds_toArray, List.set_cons_zero, List.set_cons_succ]
          refine wpAnyH_take (i := 11) (v := ?_) rfl (by kernel_rfl) (by kernel_rfl) (by kernel_rfl) (fun _ _ _ h => h) (Or.inl ⟨by rfl, ?y11⟩) (by assumption) ?r11
          case y11 => (intro w hSw; (try dsimp only at hSw); go_simp); try with_reducible rfl
          simp only [Act.put, List.setIfInBounds_toArray, List.set_cons_zero, List.set_cons_succ]
          refine wpAnyH_ready (rs := [10]) (by kernel_rfl) (by simp) ?_
          refine AllReadyH.cons rfl (fun K hK => ?_) AllReadyH.nil
          go_simp
          go_at_call 35
          refine (within_calls _ _ _ _ _).mono ?_
          rintro e w6 ⟨rfl, hb6'⟩
          have hb6 := Below.of_drew hb6'
          clear hb6'
          have g8 := zz0 hb6 E8
          have g9 := zz0 hb6 E9
          have O6 := O5.below hb6
          refine hK.out _ _ ⟨cells_at (i := 0) (v := .bool (heldB fi Fa 0 q)) g8 rfl, cells_at (i := 1) (v := .bool (heldB fi Fa 1 q)) g8 rfl, cells_at (i := 0) (v := .bool false) g9 rfl, cells_at (i := 1) (v := .bool (heldB (decs f Fa q) Fa 1 q)) g9 rfl⟩ (fun hHeld2 => ?_)
          (try simp only [Act.put, List.setIfInBounds_toArray, List.set_cons_zero, List.set_cons_succ])
          clear hK K hHeld
          refine wpAnyH_take (i := 12) (v := ?_) rfl (by kernel_rfl) (by kernel_rfl) (by kernel_rfl) (fun _ _ _ h => h) (Or.inl ⟨by rfl, ?y12⟩) (by assumption) ?r12
          case y12 => (intro w hSw; (try dsimp only at hSw); go_simp); try with_reducible rfl
          simp only [Act.put, List.setIfInBounds_toArray, List.set_cons_zero, List.set_cons_succ]
          have l0 := cells_at (i := 0) (v := .slice none 0 0) O6.bo rfl
          have l1 := cells_at (i := 1) (v := .bool false) O6.bo rfl
          have l2 := cells_at (i := 2) (v := .bool false) O6.bo rfl
          have l3 := cells_at (i := 3) (v := .bool false) O6.bo rfl
          have l4 := cells_at (i := 4) (v := .bool false) O6.bo rfl
          have l5 := cells_at (i := 5) (v := .bool false) O6.bo rfl
          have l6 := cells_at (i := 6) (v := .int .i64 0) O6.bo rfl
          have l7 := cells_at (i := 7) (v := .int .i64 0) O6.bo rfl
          have l8 := cells_at (i := 8) (v := .int .i64 0) O6.bo rfl
          have fz := fun i => frozen_at O6.bo i
          refine wpAnyH_ready (rs := [13]) (by kernel_rfl) (by simp) ?_
          refine AllReadyH.cons rfl (fun K hK => ?_) AllReadyH.nil
          go_simp
          have ne8 : p8 ≠ A + 1 := by omega
          have ne9 : p9 ≠ A + 1 := by omega
          refine hK.out _ _ ⟨cells_at (i := 0) (v := .bool (heldB fi Fa 0 q)) (set9_other ne8 g8) rfl, cells_at (i := 1) (v := .bool (heldB fi Fa 1 q)) (set9_other ne8 g8) rfl, cells_at (i := 0) (v := .bool false) (set9_other ne9 g9) rfl, cells_at (i := 1) (v := .bool (heldB (decs f Fa q) Fa 1 q)) (set9_other ne9 g9) rfl⟩ (fun hHeld3 => ?_)
          clear hK K
          refine wpAnyH_done (by kernel_rfl) ?_ _
          refine NoPanic.normal ?_
          go_wp2
          have E6 := set9_same (v0 := .slice da q dc) (v1 := .bool (true)) (v2 := .bool (!heldB (decs f Fa q) Fa 1 q || heldB fi Fa 1 q)) (v3 := .bool (termB f Fa q)) (v4 := .bool false) (v5 := .bool false) (v6 := .int .i64 0) (v7 := .int .i64 0) (v8 := .int .i64 0) O6.bo
          have m0 := cells_at (i := 0) (v := .slice da q dc) E6 rfl
          have m1 := cells_at (i := 1) (v := .bool (true)) E6 rfl
          have m2 := cells_at (i := 2) (v := .bool (!heldB (decs f Fa q) Fa 1 q || heldB fi Fa 1 q)) E6 rfl
          have m3 := cells_at (i := 3) (v := .bool (termB f Fa q)) E6 rfl
          have m4 := cells_at (i := 4) (v := .bool false) E6 rfl
          have m5 := cells_at (i := 5) (v := .bool false) E6 rfl
          have m6 := cells_at (i := 6) (v := .int .i64 0) E6 rfl
          have m7 := cells_at (i := 7) (v := .int .i64 0) E6 rfl
          have m8 := cells_at (i := 8) (v := .int .i64 0) E6 rfl
          refine bodyPost_ret (v := .agg #[.slice da q dc, .bool (true), .bool (!heldB (decs f Fa q) Fa 1 q || heldB fi Fa 1 q), .bool (termB f Fa q), .bool false, .bool false, .int .i64 0, .int .i64 0, .int .i64 0]) (by simp [results, Yba.results36, go_sem, m0, m1, m2, m3, m4, m5, m6, m7, m8]) rfl ⟨by rw [hh0]; simp, ?_, ?_⟩
          · exact set9_chg ((hC.trans (Chg.of_below (hB.trans (hb6.mono hB.size)) (Nat.le_trans hgd hC.size)))) (by have := HA.out; omega)
          · exact O6.dr.of_block (fun h => set9_blk (fun e => by have := HA.out; have := hd.lt h; omega))
        · rw [hh0] at z0 E9
          go_wp2
          go_region_held3 (fun w' => w'.cell? ⟨p8, 0, none⟩ = some (.bool (heldB fi Fa 0 q)) ∧ w'.cell? ⟨p8, 1, none⟩ = some (.bool (heldB fi Fa 1 q)) ∧ w'.cell? ⟨p9, 0, none⟩ = some (.bool true) ∧ w'.cell? ⟨p9, 1, none⟩ = some (.bool (heldB (decs f Fa q) Fa 1 q))) (first | go_keep | (refine ⟨cells_at (t := 66) (c := #[.bool (heldB fi Fa 0 q), .bool (heldB fi Fa 1 q)]) ?_ rfl, cells_at (t := 66) (c := #[.bool (heldB fi Fa 0 q), .bool (heldB fi Fa 1 q)]) ?_ rfl, cells_at (t := 66) (c := #[.bool true, .bool (heldB (decs f Fa q) Fa 1 q)]) ?_ rfl, cells_at (t := 66) (c := #[.bool true, .bool (heldB (decs f Fa q) Fa 1 q)]) ?_ rfl⟩ <;> (repeat (first | with_reducible exact g8 | with_reducible exact g9 | with_reducible refine (Below.heap_setCell _ _ _ _ (by (try dsimp only); omega)).trans ?_ | exact E8 | exact E9))))
            (first
              | (go_at_call 35; refine (within_calls _ _ _ _ _).mono ?_; rintro e w6 ⟨rfl, hb6'⟩; have hb6 := Below.of_drew hb6'; clear hb6'; have g8 := zz0 hb6 E8; have g9 := zz0 hb6 E9; have k0 := cells_at (i := 0) (v := .bool (heldB fi Fa 0 q)) g8 rfl; have k1 := cells_at (i := 1) (v := .bool (heldB fi Fa 1 q)) g8 rfl; have k2 := cells_at (i := 0) (v := .bool true) g9 rfl; have k3 := cells_at (i := 1) (v := .bool (heldB (decs f Fa q) Fa 1 q)) g9 rfl; have O6 := O5.below hb6; have l0 := cells_at (i := 0) (v := .slice none 0 0) O6.bo rfl; have l1 := cells_at (i := 1) (v := .bool false) O6.bo rfl; have l2 := cells_at (i := 2) (v := .bool false) O6.bo rfl; have l3 := cells_at (i := 3) (v := .bool false) O6.bo rfl; have l4 := cells_at (i := 4) (v := .bool false) O6.bo rfl; have l5 := cells_at (i := 5) (v := .bool false) O6.bo rfl; have l6 := cells_at (i := 6) (v := .int .i64 0) O6.bo rfl; have l7 := cells_at (i := 7) (v := .int .i64 0) O6.bo rfl; have l8 := cells_at (i := 8) (v := .int .i64 0) O6.bo rfl; have fz := fun i => frozen_at O6.bo i; (have : ¬ p8 = A + 1 := by omega); (have : ¬ p9 = A + 1 := by omega))
              | fail)
          go_wp2
          have E6 := set9_same (v0 := .slice da q dc) (v1 := .bool (!heldB (decs f Fa q) Fa 1 q)) (v2 := .bool (heldB fi Fa 0 q && (!heldB (decs f Fa q) Fa 1 q || heldB fi Fa 1 q))) (v3 := .bool (termB f Fa q)) (v4 := .bool false) (v5 := .bool false) (v6 := .int .i64 0) (v7 := .int .i64 0) (v8 := .int .i64 0) O6.bo
          have m0 := cells_at (i := 0) (v := .slice da q dc) E6 rfl
          have m1 := cells_at (i := 1) (v := .bool (!heldB (decs f Fa q) Fa 1 q)) E6 rfl
          have m2 := cells_at (i := 2) (v := .bool (heldB fi Fa 0 q && (!heldB (decs f Fa q) Fa 1 q || heldB fi Fa 1 q))) E6 rfl
          have m3 := cells_at (i := 3) (v := .bool (termB f Fa q)) E6 rfl
          have m4 := cells_at (i := 4) (v := .bool false) E6 rfl
          have m5 := cells_at (i := 5) (v := .bool false) E6 rfl
          have m6 := cells_at (i := 6) (v := .int .i64 0) E6 rfl
          have m7 := cells_at (i := 7) (v := .int .i64 0) E6 rfl
          have m8 := cells_at (i := 8) (v := .int .i64 0) E6 rfl
          refine bodyPost_ret (v := .agg #[.slice da q dc, .bool (!heldB (decs f Fa q) Fa 1 q), .bool (heldB fi Fa 0 q && (!heldB (decs f Fa q) Fa 1 q || heldB fi Fa 1 q)), .bool (termB f Fa q), .bool false, .bool false, .int .i64 0, .int .i64 0, .int .i64 0]) (by simp [results, Yba.results36, go_sem, m0, m1, m2, m3, m4, m5, m6, m7, m8]) rfl ⟨by rw [hh0]; simp, ?_, ?_⟩
          · exact set9_chg ((hC.trans (Chg.of_below (hB.trans (hb6.mono hB.size)) (Nat.le_trans hgd hC.size)))) (by have := HA.out; omega)
          · exact O6.dr.of_block (fun h => set9_blk (fun e => by have := HA.out; have := hd.lt h; omega))
end Go.Proofs.Ybulkyva
