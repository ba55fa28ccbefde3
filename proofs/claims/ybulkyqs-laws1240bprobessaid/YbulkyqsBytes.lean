import Derived.Test.YbulkyqsNewRun
import Derived.Laws.CopyOwn
import Derived.BigQuiet
import Derived.Deep.QuietTactic
namespace Go.Proofs.Ybulkyqs
open Go.RowKit
set_option linter.unusedVariables false

/-- The byte i of a slice that came in. -/
def byteAt (z : List Int) (i : Nat) : Int := z.getD i 0

theorem made_list (n : Nat) : madeCells #[Value.int .u8 0] n = (bcells n (fun _ => 0)).toArray := by
  apply Array.ext'
  rw [toList_madeCells_one]
  simp only [bcells]
  apply List.ext_getElem?
  intro j
  by_cases hj : j < n
  · simp [hj]
  · simp [hj]

theorem splice_all (n : Nat) (f g : Nat → Int) : splice (bcells n f) 0 (bcells n g) = bcells n g := by
  simp [splice, length_bcells]

theorem row_of_cells {w : World} {g n : Nat} {f : Nat → Int} (h : w.heap[g]? = some (.cells (bcells n f).toArray 5 (0, 0))) : w.rowIs g 5 n (fun j => .int .u8 (f j)) :=
  ⟨_, h, by simp [length_bcells], fun i hi => by simp [bcells, hi]⟩

theorem in_block (w : World) (n : Nat) : (w.alloc (.cells (madeCells #[Value.int .u8 0] n) 5)).heap[w.heap.size]? = some (.cells (bcells n (fun _ => 0)).toArray 5 (0, 0)) := by
  rw [made_list]
  exact heap_alloc_new w _

/-- The cells of a slice that came in, in a later world. -/
theorem src_cells {w W : World} {a : Option Addr} {len cap : Nat} {z : List Int} (h : IsRow .u8 w a len cap z) (hb : Below w.heap.size w W) (hp : 0 < (bcells len (byteAt z)).length) :
    ∃ ad, a = some ad ∧ ∀ j v, (bcells len (byteAt z))[j]? = some v → W.cell? (ad.add j) = some v := by
  rw [length_bcells] at hp
  obtain ⟨b, off, rfl, hl, hm, hz, hbl, hc⟩ := h.lies hp
  refine ⟨_, rfl, fun j v hv => ?_⟩
  obtain ⟨hj, rfl⟩ := bcells_get hv
  rw [Addr.add_lit, hb.cell (p := ⟨b, off + j, none⟩) hbl]
  exact hc j (by omega)

theorem IsRow.range {w : World} {a : Option Addr} {len cap : Nat} {z : List Int} (h : IsRow .u8 w a len cap z) (j : Nat) : 0 ≤ z.getD j 0 ∧ z.getD j 0 < 256 := by
  rcases h with ⟨_, _, _, rfl⟩ | ⟨x, rfl, _, _, _, _, hw⟩
  · simp
  · have := range_u8 hw j
    simp only [List.getD]
    omega
theorem IsRow.mask {w : World} {a : Option Addr} {len cap : Nat} {z : List Int} (h : IsRow .u8 w a len cap z) (j : Nat) : 0 ≤ maskAt z len j ∧ maskAt z len j < 256 := by
  unfold maskAt
  split
  · exact h.range j
  · omega

theorem not_same (m : Int) (h : 0 ≤ m ∧ m < 256) : (m == bits BinOp.xor IntKind.u8 IntKind.u8.max m) = false := by
  obtain ⟨n, rfl⟩ := Int.eq_ofNat_of_zero_le h.1
  have hn : n < 256 := by omega
  have e : bits BinOp.xor IntKind.u8 IntKind.u8.max (n : Int) = ((255 ^^^ n : Nat) : Int) := u8_xor_nat 255 n (by omega) hn
  rw [e, beq_eq_false_iff_ne]
  intro h2
  have h3 : n = 255 ^^^ n := by omega
  have h4 : n ^^^ n = (255 ^^^ n) ^^^ n := congrArg (· ^^^ n) h3
  rw [Nat.xor_assoc, Nat.xor_self] at h4
  simp at h4

/-- What the law's own blocks hold behind newRun: the mask in block B, the run's cells in block R, its bytes in gb, its mask in gc. -/
structure BL (w : World) (n : Nat) (fi fm : Nat → Int) (R gb gc cap : Nat) (x : Value) (xs : List Value) (W : World) : Prop where
  old : Below w.heap.size w W
  m : W.rowIs w.heap.size 5 n (fun j => .int .u8 (fm j))
  r0 : W.cell? ⟨R, 0, none⟩ = some (.slice (some ⟨gb, 0, none⟩) n n)
  r1 : W.cell? ⟨R, 1, none⟩ = some (.slice (some ⟨gc, 0, none⟩) n cap)
  b : W.rowIs gb 5 n (fun j => .int .u8 (bits .and .u8 (fi j) (fm j)))
  c : W.ownsRow (w.heap.size + 1) 5 1 (.slice (some ⟨gc, 0, none⟩) n cap) n xs
  hgc : w.heap.size < gc
  hgb : w.heap.size < gb
  hR : w.heap.size < R
  hn1 : gc ≠ gb
  hn2 : gc ≠ R

theorem BL.drew {w : World} {n : Nat} {fi fm : Nat → Int} {R gb gc cap : Nat} {x : Value} {xs : List Value} {W : World} (h : BL w n fi fm R gb gc cap x xs W) : BL w n fi fm R gb gc cap x xs W.drew :=
  ⟨h.old.drew, h.m, h.r0, h.r1, h.b, h.c, h.hgc, h.hgb, h.hR, h.hn1, h.hn2⟩

theorem BL.drewN {w : World} {n : Nat} {fi fm : Nat → Int} {R gb gc cap : Nat} {x : Value} {xs : List Value} {W : World} (h : BL w n fi fm R gb gc cap x xs W) (q : Nat) : BL w n fi fm R gb gc cap x xs (W.drewN q) :=
  ⟨⟨h.old.os, h.old.tape, h.old.output, h.old.size, h.old.block⟩, h.m, h.r0, h.r1, h.b, h.c, h.hgc, h.hgb, h.hR, h.hn1, h.hn2⟩

theorem BL.store {w : World} {n : Nat} {fi fm : Nat → Int} {R gb gc cap : Nat} {x : Value} {xs : List Value} {W : World} (h : BL w n fi fm R gb gc cap x xs W) (k : Nat) (v : Value) : BL w n fi fm R gb gc cap x (xs.set k v) (W.setCell ⟨gc, k, none⟩ v) :=
  have z := h.hgc
  ⟨h.old.setCell (by show _ ≤ gc; omega) _, h.m.setOther (by show _ ≠ gc; omega) _, (World.cell?_of_block (w := W) (Below.heap_setCell _ _ _ _ (by have := h.hn2; show R ≠ gc; omega))).trans h.r0,
    (World.cell?_of_block (w := W) (Below.heap_setCell _ _ _ _ (by have := h.hn2; show R ≠ gc; omega))).trans h.r1, h.b.setOther (by have := h.hn1; show _ ≠ gc; omega) _, (h.c.stored k v).1, h.hgc, h.hgb, h.hR, h.hn1, h.hn2⟩

theorem BL.make {w w3 w4 : World} {n : Nat} {fi fm : Nat → Int} {gb gc cap : Nat} {ao : Option Addr} {np cp : Nat} (h3 : Below w.heap.size w w3) (hm : w3.rowIs w.heap.size 5 n (fun j => .int .u8 (fm j)))
    (hz : w.heap.size + 1 ≤ w3.heap.size) (ho : RunOut w3.heap.size n fi fm gb gc cap ao np cp w4) (h4 : Below w3.heap.size w3 w4) :
    BL w n fi fm w4.heap.size gb gc cap (.slice ao np cp) (bcells n fm) (w4.alloc (.cells #[.slice (some ⟨gb, 0, none⟩) n n, .slice (some ⟨gc, 0, none⟩) n cap, .slice ao np cp] 28)) := by
  have z4 := h4.size
  have l1 := ho.hgb
  have l2 := ho.hgc
  have l3 := (ho.c.lt gc rfl).2
  have hm4 := hm.of_block (h4.block _ (by omega))
  refine ⟨(h3.trans (h4.mono (by omega))).alloc (by omega) _, hm4.alloc _, ?_, ?_, ho.b.alloc _, owns_mono (ho.c.alloc _) (by omega), by omega, by omega, by omega, fun e => ho.hne e.symm, by omega⟩
  · rw [World.cell?_alloc_at _ _ _ _ rfl]; rfl
  · rw [World.cell?_alloc_at _ _ _ _ rfl]; rfl

set_option maxHeartbeats 4000000 in
set_option maxRecDepth 100000 in
theorem bytes_some (b0 off0 : Nat) (len0 cap0 : Nat) (z0 : List Int) (a1 : Option Addr) (len1 cap1 : Nat) (z1 : List Int) (w : World) (w0 : IsRow .u8 w (some ⟨b0, off0, none⟩) len0 cap0 z0) (w1 : IsRow .u8 w a1 len1 cap1 z1) (h0 : len0 ≤ 1024) (hb0 : b0 < w.heap.size) (hc0 : ∀ j, j < len0 → w.cell? ⟨b0, off0 + j, none⟩ = some (.int .u8 (byteAt z0 j))) :
    Calls Yba.prog 3 #[.slice (some ⟨b0, off0, none⟩) len0 cap0, .slice a1 len1 cap1] w fun e w' => e = .returned (.bool true) ∧ Below w.heap.size w w' := by
  have hmk := fun w => run_make_row' (P := Yba.prog) 22 5 (.int .u8 0) 1 Yba.underlying22 Yba.info5 rfl .i64 .i64 len0 (by omega) (by omega) w
  have hi5 : (Yba.prog.info? 5).map (·.size) = some 1 := by kernel_rfl
  go_enter Yba.func3, Yba.ntmps3
  go_wp2_with (first
    | (go_at_call 7; refine (mask_calls (some ⟨b0, off0, none⟩) len0 cap0 a1 len1 cap1 z1 _ h0 w1).mono ?_; rintro e w2 ⟨rfl, hr2, hb2, hs2⟩; have hin := in_block w2 len0; rw [hs2] at hin; have hb3 := hb2.alloc (o := .cells (madeCells #[Value.int .u8 0] len0) 5) hb2.size)
    | (with_reducible (show wpList _ _ _ ({ dst := _, op := Op.call { callee := Callee.builtin Builtin.copy, args := _, argTypes := _ }, type := _, pos := _, after := _, guard := _ } :: _) _ _)
       refine wpList_copy_splice rfl (.tmp 19) (.tmp 20) 22 22 rfl 5 Yba.underlying22 hi5 _ _ _ _ _ _ rfl rfl (w.heap.size + 1) 0 _ 5 hin (bcells len0 (byteAt z0)) (by simp [length_bcells]) (fun hp => ⟨rfl, src_cells w0 hb3 hp⟩) (by simp [length_bcells]) bcells_one (w.heap.size + 1) _ (Below.refl _ _) (Nat.le_refl _) ?_
       intro w3 HG3 hc3))
  have hm3 := (hr2.alloc (.cells (madeCells #[Value.int .u8 0] len0) 5)).of_block (hc3.block _ (by omega))
  have hi3 := HG3.out
  rw [splice_all] at hi3
  have hi3' := row_of_cells hi3
  have hz3 : w.heap.size + 1 ≤ w3.heap.size := by have := hc3.size; simp [hs2] at this; omega
  have hb3' := hb3.trans (hc3.mono (by omega))
  clear hi3 HG3 hin hr2 hc3 hb3 hb2 hs2 hmk
  refine (newRun_calls (w.heap.size + 1) w.heap.size len0 (byteAt z0) (maskAt z1 len1) w3 h0 hi3' hm3 (fun j _ => w0.range j) (fun j _ => w1.mask j)).mono ?_
  rintro e w4 ⟨gb, gc, cap, ao, np, cp, rfl, ho, hb4⟩
  have hBL := BL.make hb3' hm3 hz3 ho hb4
  clear hi3' hm3 hz3 ho hb4 hb3'
  go_wp2
  obtain ⟨R, hR⟩ : ∃ R : Nat, R = w4.heap.size := ⟨_, rfl⟩
  obtain ⟨W5, hW5⟩ : ∃ W5 : World, W5 = w4.alloc (Obj.cells #[Value.slice (some { block := gb, off := 0 }) len0 len0, Value.slice (some { block := gc, off := 0 }) len0 cap, Value.slice ao np cp] 28) := ⟨_, rfl⟩
  rw [← hW5, ← hR]
  rw [← hW5, ← hR] at hBL
  clear hW5 hR
  go_loopw [8] (fun i wr => ∃ k : Nat, k ≤ len0 ∧ i = .int .i64 k ∧ BL w len0 (byteAt z0) (maskAt z1 len1) R gb gc cap (.slice ao np cp) (bcells len0 (maskAt z1 len1)) wr) (fun i _ => len0 - (intOf i).toNat)
  case atStart => exact ⟨0, Nat.zero_le _, rfl, hBL⟩
  case round =>
    clear hBL
    obtain ⟨k, hk, rfl, H⟩ := hrel
    by_cases hlt : k < len0
    · have c0 := H.r0
      have c1 := H.r1
      have cm := H.m.cell hlt
      have cb := H.b.cell hlt
      have cc : wr.cell? ⟨gc, k, none⟩ = some (.int .u8 (maskAt z1 len1 k)) := by rw [H.c.cellAt k (by omega)]; simp [bcells, hlt]
      have ca := (H.old.cell (p := ⟨b0, off0 + k, none⟩) hb0).trans (hc0 k hlt)
      go_wp2
      go_quiet (fail)
      go_wp2
      go_quiet (fail)
      go_wp2
      go_roundw
      case rel => exact ⟨k + 1, by omega, by go_num, H.drewN _⟩
      case measure => simp [intOf]; omega
    · go_wp2
      obtain ⟨W6, hW6⟩ : ∃ W6 : World, W6 = wr := ⟨_, rfl⟩
      rw [← hW6]
      rw [← hW6] at H
      clear hW6
      go_loopw [9] (fun i wr => ∃ (k : Nat) (xs : List Value), k ≤ len0 ∧ i = .int .i64 k ∧ BL w len0 (byteAt z0) (maskAt z1 len1) R gb gc cap (.slice ao np cp) xs wr) (fun i _ => len0 - (intOf i).toNat)
      case atStart => exact ⟨0, _, Nat.zero_le _, rfl, H⟩
      case round =>
        clear H
        obtain ⟨k, xs, hk, rfl, H⟩ := hrel
        by_cases hlt : k < len0
        · have c0 := H.r0
          have c1 := H.r1
          have cm := H.m.cell hlt
          have cc := H.c.cellAt k (by omega)
          have hxl : k < xs.length := by have := H.c.1; omega
          rw [List.getElem?_eq_getElem hxl] at cc
          have fc := H.c.frozenAt k
          have n1 : ¬ w.heap.size = gc := by have := H.hgc; omega
          have n2 : ¬ R = gc := by have := H.hn2; omega
          have n1' : ¬ gc = w.heap.size := by have := H.hgc; omega
          have n2' : ¬ gc = R := by have := H.hn2; omega
          have hx : (maskAt z1 len1 k == bits BinOp.xor IntKind.u8 IntKind.u8.max (maskAt z1 len1 k)) = false := not_same _ (w1.mask k)
          go_wp2
          go_region
          go_wp2
          go_quiet (fail)
          go_wp2
          go_roundw
          case rel => exact ⟨k + 1, _, by omega, by go_num, (H.store k _).drewN _⟩
          case measure => simp [intOf]; omega
        · go_wp2
          go_ret
          exact ⟨rfl, H.old⟩

set_option maxHeartbeats 4000000 in
set_option maxRecDepth 100000 in
theorem bytes_none (a0 : Option Addr) (len0 cap0 : Nat) (z0 : List Int) (a1 : Option Addr) (len1 cap1 : Nat) (z1 : List Int) (w : World) (w0 : IsRow .u8 w a0 len0 cap0 z0) (w1 : IsRow .u8 w a1 len1 cap1 z1) (h0 : len0 ≤ 0) :
    Calls Yba.prog 3 #[.slice a0 len0 cap0, .slice a1 len1 cap1] w fun e w' => e = .returned (.bool true) ∧ Below w.heap.size w w' := by
  have hmk := fun w => run_make_row' (P := Yba.prog) 22 5 (.int .u8 0) 1 Yba.underlying22 Yba.info5 rfl .i64 .i64 len0 (by omega) (by omega) w
  have hi5 : (Yba.prog.info? 5).map (·.size) = some 1 := by kernel_rfl
  go_enter Yba.func3, Yba.ntmps3
  go_wp2_with (first
    | (go_at_call 7; refine (mask_calls a0 len0 cap0 a1 len1 cap1 z1 _ (by omega) w1).mono ?_; rintro e w2 ⟨rfl, hr2, hb2, hs2⟩; have hin := in_block w2 len0; rw [hs2] at hin; have hb3 := hb2.alloc (o := .cells (madeCells #[Value.int .u8 0] len0) 5) hb2.size)
    | (with_reducible (show wpList _ _ _ ({ dst := _, op := Op.call { callee := Callee.builtin Builtin.copy, args := _, argTypes := _ }, type := _, pos := _, after := _, guard := _ } :: _) _ _)
       refine wpList_copy_splice rfl (.tmp 19) (.tmp 20) 22 22 rfl 5 Yba.underlying22 hi5 _ _ _ _ _ _ rfl rfl (w.heap.size + 1) 0 _ 5 hin (bcells len0 (byteAt z0)) (by simp [length_bcells]) (fun hp => ⟨rfl, src_cells w0 hb3 hp⟩) (by simp [length_bcells]) bcells_one (w.heap.size + 1) _ (Below.refl _ _) (Nat.le_refl _) ?_
       intro w3 HG3 hc3))
  have hm3 := (hr2.alloc (.cells (madeCells #[Value.int .u8 0] len0) 5)).of_block (hc3.block _ (by omega))
  have hi3 := HG3.out
  rw [splice_all] at hi3
  have hi3' := row_of_cells hi3
  have hz3 : w.heap.size + 1 ≤ w3.heap.size := by have := hc3.size; simp [hs2] at this; omega
  have hb3' := hb3.trans (hc3.mono (by omega))
  clear hi3 HG3 hin hr2 hc3 hb3 hb2 hs2 hmk
  refine (newRun_calls (w.heap.size + 1) w.heap.size len0 (byteAt z0) (maskAt z1 len1) w3 (by omega) hi3' hm3 (fun j _ => w0.range j) (fun j _ => w1.mask j)).mono ?_
  rintro e w4 ⟨gb, gc, cap, ao, np, cp, rfl, ho, hb4⟩
  have hfin := (BL.make hb3' hm3 hz3 ho hb4).old
  clear hi3' hm3 hz3 ho hb4 hb3' w1 w0
  go_wp2
  refine wp_loop_rounds 1 ?_
  rw [rounds_succ]
  go_wp2
  refine wp_loop_rounds 1 ?_
  rw [rounds_succ]
  go_wp2
  go_ret
  exact ⟨rfl, hfin⟩

theorem bytes_large (a0 : Option Addr) (len0 cap0 : Nat) (a1 : Option Addr) (len1 cap1 : Nat) (w : World) (h0 : ¬ len0 ≤ 1024) :
    Calls Yba.prog 3 #[.slice a0 len0 cap0, .slice a1 len1 cap1] w fun e w' => e = .returned (.bool true) ∧ Below w.heap.size w w' := by
  have h1 : (1024 : Int) < (len0 : Int) := by omega
  go_enter Yba.func3, Yba.ntmps3
  go_wp2
  go_ret
  exact ⟨rfl, Below.refl _ _⟩

theorem bytes_walk (a0 : Option Addr) (len0 cap0 : Nat) (z0 : List Int) (a1 : Option Addr) (len1 cap1 : Nat) (z1 : List Int) (w : World) (w0 : IsRow .u8 w a0 len0 cap0 z0) (w1 : IsRow .u8 w a1 len1 cap1 z1) :
    Calls Yba.prog 3 #[.slice a0 len0 cap0, .slice a1 len1 cap1] w fun e w' => e = .returned (.bool true) ∧ Below w.heap.size w w' := by
  by_cases h0 : len0 ≤ 1024
  · by_cases hp : 0 < len0
    · obtain ⟨b, off, rfl, hl, hm, hz, hb, hc⟩ := w0.lies hp
      exact bytes_some b off len0 cap0 z0 a1 len1 cap1 z1 w w0 w1 h0 hb (fun j hj => hc j (by omega))
    · exact bytes_none a0 len0 cap0 z0 a1 len1 cap1 z1 w w0 w1 (by omega)
  · exact bytes_large a0 len0 cap0 a1 len1 cap1 w h0
end Go.Proofs.Ybulkyqs
