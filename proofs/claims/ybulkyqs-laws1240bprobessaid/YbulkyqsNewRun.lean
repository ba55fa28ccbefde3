import Derived.Test.YbulkyqsProbes
import Derived.Deep.RegionHeld3
namespace Go.Proofs.Ybulkyqs
open Go.RowKit
set_option linter.unusedVariables false

/-- What b's row holds when k rounds are done. -/
def runTo (fi fm : Nat → Int) (k j : Nat) : Value := .int .u8 (if j < k then bits .and .u8 (fi j) (fm j) else 0)
theorem runTo_step (fi fm : Nat → Int) (k : Nat) : (fun j => if j = k then Value.int .u8 (bits .and .u8 (fi k) (fm k)) else runTo fi fm k j) = runTo fi fm (k + 1) := by
  funext j
  unfold runTo
  by_cases e : j = k
  · subst e; simp
  · simp only [e, if_false]
    by_cases h2 : j < k
    · simp [h2, show j < k + 1 by omega]
    · simp [h2, show ¬ j < k + 1 by omega]
theorem run_made (w : World) (fi fm : Nat → Int) (n : Nat) : (w.alloc (.cells (madeCells #[Value.int .u8 0] n) 5)).rowIs w.heap.size 5 n (runTo fi fm 0) :=
  (World.rowIs_made w (.int .u8 0) n 5).congr (fun i _ => by simp [runTo])
theorem run_end {w : World} {fi fm : Nat → Int} {g n : Nat} (h : w.rowIs g 5 n (runTo fi fm n)) : w.rowIs g 5 n (fun j => .int .u8 (bits .and .u8 (fi j) (fm j))) :=
  h.congr (fun i hi => by simp [runTo, hi])

/-- What newRun's own blocks hold, its parameter in block B, its result's slot in block B + 1, b in block B + 2; what it was handed. -/
structure NR (B gi gm n : Nat) (fi fm : Nat → Int) (fo : Nat → Value) (W : World) : Prop where
  s0 : W.cell? ⟨B, 0, none⟩ = some (.slice (some ⟨gi, 0, none⟩) n n)
  s1 : W.cell? ⟨B, 1, none⟩ = some (.slice (some ⟨gm, 0, none⟩) n n)
  r : W.rowIs (B + 1) 28 3 (fun _ => .slice none 0 0)
  b : W.rowIs (B + 2) 5 n fo
  i : W.rowIs gi 5 n (fun j => .int .u8 (fi j))
  m : W.rowIs gm 5 n (fun j => .int .u8 (fm j))
  gi : gi < B
  gm : gm < B

theorem NR.size {B gi gm n : Nat} {fi fm : Nat → Int} {fo : Nat → Value} {W : World} (h : NR B gi gm n fi fm fo W) : B + 2 < W.heap.size := h.b.lt

theorem NR.below {B gi gm n : Nat} {fi fm : Nat → Int} {fo : Nat → Value} {W W' : World} (h : NR B gi gm n fi fm fo W) (hb : Below W.heap.size W W') : NR B gi gm n fi fm fo W' :=
  have z := h.size
  ⟨(hb.cell (p := ⟨B, 0, none⟩) (by show B < _; omega)).trans h.s0, (hb.cell (p := ⟨B, 1, none⟩) (by show B < _; omega)).trans h.s1, h.r.of_block (hb.block _ (by omega)), h.b.of_block (hb.block _ (by omega)),
    h.i.of_block (hb.block _ (by have := h.gi; omega)), h.m.of_block (hb.block _ (by have := h.gm; omega)), h.gi, h.gm⟩

theorem NR.store {B gi gm n : Nat} {fi fm : Nat → Int} {fo : Nat → Value} {W : World} (h : NR B gi gm n fi fm fo W) (k : Nat) (v : Value) : NR B gi gm n fi fm (fun j => if j = k then v else fo j) (W.setCell ⟨B + 2, k, none⟩ v) :=
  have z1 := h.gi
  have z2 := h.gm
  ⟨(World.cell?_of_block (w := W) (Below.heap_setCell _ _ _ _ (by show B ≠ B + 2; omega))).trans h.s0, (World.cell?_of_block (w := W) (Below.heap_setCell _ _ _ _ (by show B ≠ B + 2; omega))).trans h.s1,
    h.r.setOther (by show B + 1 ≠ B + 2; omega) _, h.b.set k v, h.i.setOther (by show _ ≠ B + 2; omega) _, h.m.setOther (by show _ ≠ B + 2; omega) _, z1, z2⟩

theorem NR.drew {B gi gm n : Nat} {fi fm : Nat → Int} {fo : Nat → Value} {W : World} (h : NR B gi gm n fi fm fo W) : NR B gi gm n fi fm fo W.drew := ⟨h.s0, h.s1, h.r, h.b, h.i, h.m, h.gi, h.gm⟩

theorem NR.start (w : World) (gi gm n : Nat) (fi fm : Nat → Int) (hi : w.rowIs gi 5 n (fun j => .int .u8 (fi j))) (hm : w.rowIs gm 5 n (fun j => .int .u8 (fm j))) :
    NR w.heap.size gi gm n fi fm (runTo fi fm 0) (((w.alloc (.cells #[.slice (some ⟨gi, 0, none⟩) n n, .slice (some ⟨gm, 0, none⟩) n n] 25)).alloc (.cells #[.slice none 0 0, .slice none 0 0, .slice none 0 0] 28)).alloc (.cells (madeCells #[Value.int .u8 0] n) 5)) := by
  have a := World.rowIs_alloc w #[.slice (some ⟨gi, 0, none⟩) n n, .slice (some ⟨gm, 0, none⟩) n n] 25 (fun i => if i = 0 then .slice (some ⟨gi, 0, none⟩) n n else .slice (some ⟨gm, 0, none⟩) n n) (fun i hi => by
    match i, hi with
    | 0, _ => rfl
    | 1, _ => rfl)
  have b := World.rowIs_alloc (w.alloc (.cells #[.slice (some ⟨gi, 0, none⟩) n n, .slice (some ⟨gm, 0, none⟩) n n] 25)) #[.slice none 0 0, .slice none 0 0, .slice none 0 0] 28 (fun _ => .slice none 0 0) (fun i hi => by
    match i, hi with
    | 0, _ => rfl
    | 1, _ => rfl
    | 2, _ => rfl)
  have c := run_made ((w.alloc (.cells #[.slice (some ⟨gi, 0, none⟩) n n, .slice (some ⟨gm, 0, none⟩) n n] 25)).alloc (.cells #[.slice none 0 0, .slice none 0 0, .slice none 0 0] 28)) fi fm n
  simp only [World.size_alloc] at b c
  exact ⟨((a.alloc _).alloc _).cell (i := 0) (by simp), ((a.alloc _).alloc _).cell (i := 1) (by simp), b.alloc _, c, ((hi.alloc _).alloc _).alloc _, ((hm.alloc _).alloc _).alloc _, hi.lt, hm.lt⟩

theorem below_three (w : World) (o o' o'' : Obj) : Below w.heap.size w (((w.alloc o).alloc o').alloc o'') := (((Below.refl _ _).alloc (Nat.le_refl _) o).alloc (by simp) o').alloc (by simp; omega) o''

/-- What newRun leaves: the bytes in block gb, the mask's copy in block gc, the probes in v. -/
structure RunOut (B n : Nat) (fi fm : Nat → Int) (gb gc cap : Nat) (ao : Option Addr) (np cp : Nat) (W : World) : Prop where
  hgb : B ≤ gb
  hgc : B ≤ gc
  hne : gb ≠ gc
  b : W.rowIs gb 5 n (fun j => .int .u8 (bits .and .u8 (fi j) (fm j)))
  c : W.ownsRow B 5 1 (.slice (some ⟨gc, 0, none⟩) n cap) n (bcells n fm)
  p : ∃ (ps : List Nat) (i : Nat), np = ps.length ∧ n ≤ i ∧ Starts fm n ps i ∧ ps.length ≤ 1031 ∧ W.ownsRow B 33 3 (.slice ao np cp) ps.length (pcells (fun j => bits .and .u8 (fi j) (fm j)) fm n ps)

theorem owns_mono {w : World} {base base' e size n : Nat} {v : Value} {xs : List Value} (h : w.ownsRow base e size v n xs) (hb : base' ≤ base) : w.ownsRow base' e size v n xs := by
  refine ⟨h.1, ?_⟩
  rcases h.2 with h | ⟨g, cap, cur, hv, hg, r⟩
  · exact .inl h
  · exact .inr ⟨g, cap, cur, hv, by omega, r⟩

theorem RunOut.make {B gi gm n : Nat} {fi fm : Nat → Int} {gc cap : Nat} {ao : Option Addr} {np cp : Nat} {wa w1 w2 : World} {ps : List Nat} {i : Nat}
    (N : NR B gi gm n fi fm (runTo fi fm n) wa) (hge : wa.heap.size ≤ gc) (hb1 : Below wa.heap.size wa w1) (ho1 : w1.ownsRow wa.heap.size 5 1 (.slice (some ⟨gc, 0, none⟩) n cap) n (bcells n fm))
    (HNP : Hid (np = ps.length)) (hni : n ≤ i) (hst : Starts fm n ps i) (ho2 : w2.ownsRow w1.heap.size 33 3 (.slice ao np cp) ps.length (pcells (fun j => bits .and .u8 (fi j) (fm j)) fm n ps)) (hfew : ps.length ≤ 1031)
    (hb2 : Below w1.heap.size w1 w2) (x0 x1 x2 : Value) :
    RunOut B n fi fm (B + 1 + 1) gc cap ao np cp (((w2.setCell ⟨B + 1, 0, none⟩ x0).setCell ⟨B + 1, 1, none⟩ x1).setCell ⟨B + 1, 2, none⟩ x2) := by
  have z := N.size
  have z1 := hb1.size
  refine ⟨by omega, by omega, by omega, ?_, ?_, ps, i, HNP.out, hni, hst, hfew, ?_⟩
  · exact (((run_end ((N.below hb1).below hb2).b).setOther (by show B + 2 ≠ B + 1; omega) _).setOther (by show B + 2 ≠ B + 1; omega) _).setOther (by show B + 2 ≠ B + 1; omega) _
  · exact owns_mono (ownsRow_setCell_below (ownsRow_setCell_below (ownsRow_setCell_below (owns_of_below ho1 hb2) (by show B + 1 < _; omega) _) (by show B + 1 < _; omega) _) (by show B + 1 < _; omega) _) (by omega)
  · exact owns_mono (ownsRow_setCell_below (ownsRow_setCell_below (ownsRow_setCell_below ho2 (by show B + 1 < _; omega) _) (by show B + 1 < _; omega) _) (by show B + 1 < _; omega) _) (by omega)

theorem RunOut.drew {B n : Nat} {fi fm : Nat → Int} {gb gc cap : Nat} {ao : Option Addr} {np cp : Nat} {W : World} (h : RunOut B n fi fm gb gc cap ao np cp W) : RunOut B n fi fm gb gc cap ao np cp W.drew := ⟨h.hgb, h.hgc, h.hne, h.b, h.c, h.p⟩

set_option maxHeartbeats 4000000 in
set_option maxRecDepth 100000 in
theorem newRun_calls (gi gm n : Nat) (fi fm : Nat → Int) (w : World) (hn : n ≤ 1024) (hfi : w.rowIs gi 5 n (fun j => .int .u8 (fi j))) (hfm : w.rowIs gm 5 n (fun j => .int .u8 (fm j)))
    (ri : ∀ j, j < n → 0 ≤ fi j ∧ fi j < 256) (rm : ∀ j, j < n → 0 ≤ fm j ∧ fm j < 256) :
    Calls Yba.prog 8 #[.agg #[.slice (some ⟨gi, 0, none⟩) n n, .slice (some ⟨gm, 0, none⟩) n n]] w fun e w' =>
      ∃ gb gc cap ao np cp, e = .returned (.agg #[.slice (some ⟨gb, 0, none⟩) n n, .slice (some ⟨gc, 0, none⟩) n cap, .slice ao np cp]) ∧ RunOut w.heap.size n fi fm gb gc cap ao np cp w' ∧ Below w.heap.size w w' := by
  have hmk := fun w => run_make_row' (P := Yba.prog) 22 5 (.int .u8 0) 1 Yba.underlying22 Yba.info5 rfl .i64 .i64 n (by omega) (by omega) w
  have hgi := hfi.lt
  have hgm := hfm.lt
  go_enter Yba.func8, Yba.ntmps8
  go_wp2
  go_loopw [11] (fun i wr => ∃ k : Nat, k ≤ n ∧ i = .int .i64 k ∧ NR w.heap.size gi gm n fi fm (runTo fi fm k) wr ∧ Below w.heap.size w wr) (fun i _ => n - (intOf i).toNat)
  case atStart => exact ⟨0, Nat.zero_le _, rfl, NR.start w gi gm n fi fm hfi hfm, below_three _ _ _ _⟩
  case round =>
    obtain ⟨k, hk, rfl, N, hnx⟩ := hrel
    by_cases hlt : k < n
    · have c0 := N.s0
      have c1 := N.s1
      have ci := N.i.cell hlt
      have cm := N.m.cell hlt
      have cb := N.b.cell hlt
      have fb := N.b.frozen k
      have hz := N.size
      clear hmk
      go_wp2
      go_region
      go_wp2
      go_roundw
      case rel => exact ⟨k + 1, by omega, by go_num, by rw [← runTo_step]; exact (N.store k _).drew, (hnx.setCell (p := ⟨w.heap.size + 2, k, none⟩) (by show _ ≤ w.heap.size + 2; omega) _).drew⟩
      case measure => simp [intOf]; omega
    · obtain rfl : k = n := by omega
      go_wp2
      have c1 := N.s1
      have c0 := N.r.cell (i := 0) (by omega)
      have d1 := N.r.cell (i := 1) (by omega)
      have d2 := N.r.cell (i := 2) (by omega)
      have f0 := N.r.frozen 0
      have f1 := N.r.frozen 1
      have f2 := N.r.frozen 2
      clear hmk
      go_region_held3 (fun w' => w'.cell? ⟨w.heap.size, 1, none⟩ = some (.slice (some ⟨gm, 0, none⟩) k k)) (go_keep)
        (first
          | (go_at_call 14; refine (clone_calls gm k fm _ hn ?_).mono ?_; exact N.drew.m; rintro e w1 ⟨gc, cap, rfl, hge, hb1, ho1⟩; have N1 := N.drew.below hb1; have q1 := N1.s1)
          | (go_at_call 15; refine (probes_shape _ gm k (fun j => bits .and .u8 (fi j) (fm j)) fm _ hn ?_ ?_ ?_ rm).mono ?_; exact run_end N1.b; exact N1.m; exact fun j hj => and_range _ _ (ri j hj).1 (ri j hj).2 (rm j hj).1 (rm j hj).2; rintro e w2 ⟨ao, np, cp, ps, i, rfl, hnp, hni, hst, ho2, hfew, hb2⟩; have HNP : Hid (np = ps.length) := hnp; clear hnp; have N2 := N1.below hb2; have q2 := N2.s1; have r0 := N2.r.cell (i := 0) (by omega); have r1 := N2.r.cell (i := 1) (by omega); have r2 := N2.r.cell (i := 2) (by omega); have t0 := N2.r.frozen 0; have t1 := N2.r.frozen 1; have t2 := N2.r.frozen 2)
          | fail)
      go_wp2
      have zz := N.size
      have z1 := hb1.size
      have hB : Below w.heap.size w w2 := (hnx.drew.trans (hb1.mono (by show _ ≤ wr.heap.size; omega))).trans (hb2.mono (Nat.le_trans (by show _ ≤ wr.heap.size; omega) z1))
      refine bodyPost_ret (v := .agg #[.slice (some ⟨w.heap.size + 1 + 1, 0, none⟩) k k, .slice (some ⟨gc, 0, none⟩) k cap, .slice ao np cp]) (by simp [results, Yba.results8, go_sem, r0, r1, r2]) rfl ⟨_, gc, cap, ao, np, cp, rfl, RunOut.make N.drew hge hb1 ho1 HNP hni hst ho2 hfew hb2 _ _ _, ?_⟩
      exact ((hB.setCell (p := ⟨w.heap.size + 1, 0, none⟩) (by show _ ≤ w.heap.size + 1; omega) _).setCell (p := ⟨w.heap.size + 1, 1, none⟩) (by show _ ≤ w.heap.size + 1; omega) _).setCell (p := ⟨w.heap.size + 1, 2, none⟩) (by show _ ≤ w.heap.size + 1; omega) _
end Go.Proofs.Ybulkyqs
