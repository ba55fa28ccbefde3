import Derived.Test.YbulkyqsBytes
namespace Go.Proofs.Ybulkyqs
open Go.RowKit
set_option linter.unusedVariables false

/-- What the law's own blocks hold behind newRun: the mask in block B, the run's third cell in block R, the probes in block gp. -/
structure PL (w : World) (n : Nat) (fb fm : Nat → Int) (R gp np cp : Nat) (ps : List Nat) (W : World) : Prop where
  old : Below w.heap.size w W
  m : W.rowIs w.heap.size 5 n (fun j => .int .u8 (fm j))
  r2 : W.cell? ⟨R, 2, none⟩ = some (.slice (some ⟨gp, 0, none⟩) np cp)
  p : W.ownsRow (w.heap.size + 1) 33 3 (.slice (some ⟨gp, 0, none⟩) np cp) np (pcells fb fm n ps)
  hR : R < W.heap.size

theorem PL.below {w : World} {n : Nat} {fb fm : Nat → Int} {R gp np cp : Nat} {ps : List Nat} {W W' : World} (h : PL w n fb fm R gp np cp ps W) (hb : Below W.heap.size W W') : PL w n fb fm R gp np cp ps W' :=
  ⟨h.old.trans (hb.mono h.old.size), h.m.of_block (hb.block _ h.m.lt), (hb.cell (p := ⟨R, 2, none⟩) h.hR).trans h.r2, owns_of_below h.p hb, Nat.lt_of_lt_of_le h.hR hb.size⟩

theorem PL.make {w w3 w4 : World} {n : Nat} {fi fm : Nat → Int} {gb gc cap gp np cp : Nat} {ps : List Nat} (h3 : Below w.heap.size w w3) (hm : w3.rowIs w.heap.size 5 n (fun j => .int .u8 (fm j)))
    (hz : w.heap.size + 1 ≤ w3.heap.size) (ho : w4.ownsRow w3.heap.size 33 3 (.slice (some ⟨gp, 0, none⟩) np cp) np (pcells (fun j => bits .and .u8 (fi j) (fm j)) fm n ps)) (h4 : Below w3.heap.size w3 w4) :
    PL w n (fun j => bits .and .u8 (fi j) (fm j)) fm w4.heap.size gp np cp ps (w4.alloc (.cells #[.slice (some ⟨gb, 0, none⟩) n n, .slice (some ⟨gc, 0, none⟩) n cap, .slice (some ⟨gp, 0, none⟩) np cp] 28)) := by
  have z4 := h4.size
  have hm4 := hm.of_block (h4.block _ (by omega))
  refine ⟨(h3.trans (h4.mono (by omega))).alloc (by omega) _, hm4.alloc _, ?_, owns_mono (ho.alloc _) (by omega), by simp⟩
  rw [World.cell?_alloc_at _ _ _ _ rfl]; rfl

/-- The cells of probe k. -/
theorem PL.probe {w : World} {n : Nat} {fb fm : Nat → Int} {R gp np cp : Nat} {ps : List Nat} {W : World} (h : PL w n fb fm R gp np cp ps W) (hnp : np = ps.length) (k c : Nat) (hk : k < np) (hc : c < 3) :
    W.cell? ⟨gp, k * 3 + c, none⟩ = (pcell fb fm n (ps.getD k 0))[c]? := by
  rw [h.p.cellAt (k * 3 + c) (by omega)]
  exact pcells_get fb fm n ps k c (by omega) hc

theorem wid_in (n a j : Nat) (h : a + j < n) (hj : j < 8) : j < wid n a := by unfold wid; omega
theorem wid_out (n a j : Nat) (h : ¬ a + j < n) : ¬ j < wid n a := by unfold wid; omega
theorem shrB_in (fi fm : Nat → Int) (n a j : Nat) (h : a + j < n) (hj : j < 8) (hi : 0 ≤ fi (a + j) ∧ fi (a + j) < 256) (hm : 0 ≤ fm (a + j) ∧ fm (a + j) < 256) :
    (acc (gB (fun j => bits .and .u8 (fi j) (fm j)) fm a) (wid n a) : Int) / 2 ^ (8 * j) % 256 = bits .and .u8 (fi (a + j)) (fm (a + j)) := by
  rw [acc_shr _ (gB_lt _ _ _), if_pos (wid_in n a j h hj), ← gB_eq _ _ _ _ hm (and_range _ _ hi.1 hi.2 hm.1 hm.2)]
  exact and_twice _ _ hi.1 hi.2 hm.1 hm.2
theorem shrM_in (fm : Nat → Int) (n a j : Nat) (h : a + j < n) (hj : j < 8) (hm : 0 ≤ fm (a + j) ∧ fm (a + j) < 256) :
    (acc (gM fm a) (wid n a) : Int) / 2 ^ (8 * j) % 256 = fm (a + j) := by
  rw [acc_shr _ (gM_lt _ _), if_pos (wid_in n a j h hj), ← gM_eq _ _ _ hm]
theorem shrB_out (fi fm : Nat → Int) (n a j : Nat) (h : ¬ a + j < n) : (acc (gB (fun j => bits .and .u8 (fi j) (fm j)) fm a) (wid n a) : Int) / 2 ^ (8 * j) % 256 = 0 := by
  rw [acc_shr _ (gB_lt _ _ _), if_neg (wid_out n a j h)]
theorem shrM_out (fm : Nat → Int) (n a j : Nat) (h : ¬ a + j < n) : (acc (gM fm a) (wid n a) : Int) / 2 ^ (8 * j) % 256 = 0 := by
  rw [acc_shr _ (gM_lt _ _), if_neg (wid_out n a j h)]
theorem endAt_next (ps : List Nat) (k : Nat) : endAt ps (k + 1) = ps.getD k 0 + 8 := by simp [endAt]
theorem endAt_le {fm : Nat → Int} {n : Nat} {ps : List Nat} {i : Nat} (h : Starts fm n ps i) (k : Nat) (hk : k ≤ ps.length) (hn : n ≤ 1024) : endAt ps k ≤ 2000 := by
  cases k with
  | zero => simp [endAt]
  | succ k => rw [endAt_next]; have := (h.each k (by omega)).2.1; omega

set_option maxHeartbeats 4000000 in
set_option maxRecDepth 100000 in
theorem probes_some (b0 off0 : Nat) (len0 cap0 : Nat) (z0 : List Int) (a1 : Option Addr) (len1 cap1 : Nat) (z1 : List Int) (w : World) (w0 : IsRow .u8 w (some ⟨b0, off0, none⟩) len0 cap0 z0) (w1 : IsRow .u8 w a1 len1 cap1 z1) (h0 : len0 ≤ 1024) (hb0 : b0 < w.heap.size) (hc0 : ∀ j, j < len0 → w.cell? ⟨b0, off0 + j, none⟩ = some (.int .u8 (byteAt z0 j))) :
    Calls Yba.prog 4 #[.slice (some ⟨b0, off0, none⟩) len0 cap0, .slice a1 len1 cap1] w fun e w' => e = .returned (.bool true) ∧ Below w.heap.size w w' := by
  have hmk := fun w => run_make_row' (P := Yba.prog) 22 5 (.int .u8 0) 1 Yba.underlying22 Yba.info5 rfl .i64 .i64 len0 (by omega) (by omega) w
  have hi5 : (Yba.prog.info? 5).map (·.size) = some 1 := by kernel_rfl
  go_enter Yba.func4, Yba.ntmps4
  go_wp2_with (first
    | (go_at_call 7; refine (mask_calls (some ⟨b0, off0, none⟩) len0 cap0 a1 len1 cap1 z1 _ h0 w1).mono ?_; rintro e w2 ⟨rfl, hr2, hb2, hs2⟩; have hin := in_block w2 len0; rw [hs2] at hin; have hb3 := hb2.alloc (o := .cells (madeCells #[Value.int .u8 0] len0) 5) hb2.size)
    | (with_reducible (show wpList _ _ _ ({ dst := _, op := Op.call { callee := Callee.builtin Builtin.copy, args := _, argTypes := _ }, type := _, pos := _, after := _, guard := _ } :: _) _ _)
       refine wpList_copy_splice rfl (.tmp 26) (.tmp 27) 22 22 rfl 5 Yba.underlying22 hi5 _ _ _ _ _ _ rfl rfl (w.heap.size + 1) 0 _ 5 hin (bcells len0 (byteAt z0)) (by simp [length_bcells]) (fun hp => ⟨rfl, src_cells w0 hb3 hp⟩) (by simp [length_bcells]) bcells_one (w.heap.size + 1) _ (Below.refl _ _) (Nat.le_refl _) ?_
       intro w3 HG3 hc3))
  have hm3 := (hr2.alloc (.cells (madeCells #[Value.int .u8 0] len0) 5)).of_block (hc3.block _ (by omega))
  have hi3 := HG3.out
  rw [splice_all] at hi3
  have hi3' := row_of_cells hi3
  have hz3 : w.heap.size + 1 ≤ w3.heap.size := by have := hc3.size; simp [hs2] at this; omega
  have hb3' := hb3.trans (hc3.mono (by omega))
  clear hi3 HG3 hin hr2 hc3 hb3 hb2 hs2 hmk
  refine (newRun_calls (w.heap.size + 1) w.heap.size len0 (byteAt z0) (maskAt z1 len1) w3 h0 hi3' hm3 (fun j _ => w0.range j) (fun j _ => w1.mask j)).mono ?_
  rintro e w4 ⟨gb, gc, cap, ao, np, cp, rfl, ho, hb4⟩
  obtain ⟨ps, i9, hnp, hni, hst, hfew, hown⟩ := ho.p
  clear hi3' ho
  rw [← hnp] at hown
  have hown' := hown
  rcases hown.2 with ⟨hv, hlen⟩ | ⟨gp, cp', cur, hv, hg, _⟩
  · simp only [Value.slice.injEq] at hv
    obtain ⟨rfl, rfl, rfl⟩ := hv
    have z4 := hb4.size
    have hfin := (hb3'.trans (hb4.mono (by omega))).alloc (o := .cells #[.slice (some ⟨gb, 0, none⟩) len0 len0, .slice (some ⟨gc, 0, none⟩) len0 cap, .slice none 0 0] 28) (by omega)
    have hrow := (hm3.of_block (hb4.block _ (by omega))).alloc (.cells #[.slice (some ⟨gb, 0, none⟩) len0 len0, .slice (some ⟨gc, 0, none⟩) len0 cap, .slice none 0 0] 28)
    have HR : Hid (∀ j, j < len0 → maskAt z1 len1 j = 0) := fun j h2 => hst.rest j (by rw [← hnp]; simp [endAt]) (by omega)
    clear hm3 hz3 hb4 hb3' hown hown' hnp hst
    go_wp2
    refine wp_loop_rounds 1 ?_
    rw [rounds_succ]
    go_wp2
    go_loop [16] (fun i => ∃ t : Nat, t ≤ len0 ∧ i = .int .i64 t) (fun i => len0 - (intOf i).toNat)
    case atStart => exact ⟨0, Nat.zero_le _, rfl⟩
    case round =>
      obtain ⟨t, ht1, rfl⟩ := hrel
      by_cases hta : t < len0
      · have cm := hrow.cell (i := t) (by omega)
        have hz : (maskAt z1 len1 t != 0) = false := by rw [HR.out t hta]; rfl
        go_wp2
        go_round
        case rel => exact ⟨t + 1, by omega, by go_num⟩
        case measure => simp [intOf]; omega
      · go_wp2
        go_ret
        exact ⟨rfl, hfin⟩
  · simp only [Value.slice.injEq, true_and] at hv
    obtain ⟨hv1, hv2⟩ := hv
    subst hv1
    have HP := PL.make (gb := gb) (gc := gc) (cap := cap) hb3' hm3 hz3 hown' hb4
    have HNP : Hid (np = ps.length) := hnp
    clear hm3 hz3 hb4 hb3' hown hown' hv2 hg hnp
    go_wp2
    obtain ⟨R, hR⟩ : ∃ R : Nat, R = w4.heap.size := ⟨_, rfl⟩
    obtain ⟨W5, hW5⟩ : ∃ W5 : World, W5 = w4.alloc (Obj.cells #[Value.slice (some { block := gb, off := 0 }) len0 len0, Value.slice (some { block := gc, off := 0 }) len0 cap, Value.slice (some { block := gp, off := 0 }) np cp] 28) := ⟨_, rfl⟩
    rw [← hW5, ← hR]
    rw [← hW5, ← hR] at HP
    clear hW5 hR
    go_loopw [9, 10] (fun p i wr => ∃ k : Nat, k ≤ np ∧ i = .int .i64 k ∧ p = .int .i64 (endAt ps k : Nat) ∧ PL w len0 (fun j => bits .and .u8 (byteAt z0 j) (maskAt z1 len1 j)) (maskAt z1 len1) R gp np cp ps wr) (fun _ i _ => np - (intOf i).toNat)
    case atStart => exact ⟨0, Nat.zero_le _, rfl, rfl, HP⟩
    case round =>
      clear HP
      obtain ⟨k, hk, rfl, rfl, H⟩ := hrel
      by_cases hlt : k < np
      · have c2 := H.r2
        have hnp1 : np ≤ 1031 := by rw [HNP.out]; exact hfew
        obtain ⟨a, ha⟩ : ∃ a : Nat, a = ps.getD k 0 := ⟨_, rfl⟩
        have q0 := H.probe HNP.out k 0 hlt (by omega)
        have q1 := H.probe HNP.out k 1 hlt (by omega)
        have q2 := H.probe HNP.out k 2 hlt (by omega)
        rw [← ha] at q0 q1 q2
        simp only [pcell, List.getElem?_cons_zero, List.getElem?_cons_succ, Nat.add_zero] at q0 q1 q2
        obtain ⟨s1, s2, s3, s4⟩ := hst.each k (by have := HNP.out; omega)
        rw [← ha] at s1 s2 s3 s4
        have HA : Hid (a = ps.getD k 0) := ha
        obtain ⟨e, he⟩ : ∃ e : Nat, e = endAt ps k := ⟨_, rfl⟩
        rw [← he] at s1 s4
        rw [← he]
        have HE : Hid (e = endAt ps k) := he
        clear ha he
        have HS4 : Hid (∀ (j : Nat), e ≤ j → j < a → maskAt z1 len1 j = 0) := s4
        have HS3 : Hid (¬ maskAt z1 len1 a = 0) := s3
        have hs3 : (maskAt z1 len1 a == 0) = false := by simp [s3]
        clear s4 s3
        obtain ⟨A, hA⟩ : ∃ A : Nat, A = acc (gB (fun j => bits .and .u8 (byteAt z0 j) (maskAt z1 len1 j)) (maskAt z1 len1) a) (wid len0 a) := ⟨_, rfl⟩
        obtain ⟨M, hM⟩ : ∃ M : Nat, M = acc (gM (maskAt z1 len1) a) (wid len0 a) := ⟨_, rfl⟩
        rw [← hA] at q1
        rw [← hM] at q2
        have HHA : Hid (A = acc (gB (fun j => bits .and .u8 (byteAt z0 j) (maskAt z1 len1 j)) (maskAt z1 len1) a) (wid len0 a)) := hA
        have HHM : Hid (M = acc (gM (maskAt z1 len1) a) (wid len0 a)) := hM
        clear hA hM
        have ha1 : (e : Int) ≤ (a : Int) := by omega
        have ha2 : (a : Int) < (len0 : Int) := by omega
        go_wp2
        have H6 := H.below (below_one wr (Obj.cells #[Value.int IntKind.i64 (a : Int), Value.int IntKind.u64 (A : Int), Value.int IntKind.u64 (M : Int)] 33))
        have d0 : (wr.alloc (Obj.cells #[Value.int IntKind.i64 (a : Int), Value.int IntKind.u64 (A : Int), Value.int IntKind.u64 (M : Int)] 33)).cell? ⟨wr.heap.size, 0, none⟩ = some (.int .i64 (a : Int)) := by rw [World.cell?_alloc_at _ _ _ _ rfl]; rfl
        have d1 : (wr.alloc (Obj.cells #[Value.int IntKind.i64 (a : Int), Value.int IntKind.u64 (A : Int), Value.int IntKind.u64 (M : Int)] 33)).cell? ⟨wr.heap.size, 1, none⟩ = some (.int .u64 (A : Int)) := by rw [World.cell?_alloc_at _ _ _ _ rfl]; rfl
        have d2 : (wr.alloc (Obj.cells #[Value.int IntKind.i64 (a : Int), Value.int IntKind.u64 (A : Int), Value.int IntKind.u64 (M : Int)] 33)).cell? ⟨wr.heap.size, 2, none⟩ = some (.int .u64 (M : Int)) := by rw [World.cell?_alloc_at _ _ _ _ rfl]; rfl
        obtain ⟨W6, hW6⟩ : ∃ W6 : World, W6 = wr.alloc (Obj.cells #[Value.int IntKind.i64 (a : Int), Value.int IntKind.u64 (A : Int), Value.int IntKind.u64 (M : Int)] 33) := ⟨_, rfl⟩
        obtain ⟨P, hP⟩ : ∃ P : Nat, P = wr.heap.size := ⟨_, rfl⟩
        rw [← hW6, ← hP]
        rw [← hW6] at H6
        rw [← hW6, ← hP] at d0 d1 d2
        clear hW6 hP H c2 q0 q1 q2
        go_loop [12] (fun i => ∃ t : Nat, e ≤ t ∧ t ≤ a ∧ i = .int .i64 t) (fun i => a - (intOf i).toNat)
        case atStart => exact ⟨e, Nat.le_refl _, s1, rfl⟩
        case round =>
          obtain ⟨t, ht1, ht2, rfl⟩ := hrel
          by_cases hta : t < a
          · have cm := H6.m.cell (i := t) (by omega)
            have hz : (maskAt z1 len1 t != 0) = false := by rw [HS4.out t ht1 hta]; rfl
            go_wp2
            go_round
            case rel => exact ⟨t + 1, by omega, by omega, by go_num⟩
            case measure => simp [intOf]; omega
          · have cm := H6.m.cell (i := a) (by omega)
            obtain rfl : t = a := by omega
            go_wp2
            go_loopw [13] (fun i wi => ∃ j q : Nat, j ≤ 8 ∧ i = .int .i64 j ∧ wi = W6.drewN q) (fun i _ => 8 - (intOf i).toNat)
            case atStart => exact ⟨0, 0, by omega, rfl, rfl⟩
            case round =>
              obtain ⟨j, q, hj, rfl, rfl⟩ := hrel
              by_cases hj8 : j < 8
              · by_cases hin : t + j < len0
                · have hin' : (t : Int) + (j : Int) < (len0 : Int) := by omega
                  have cmj := H6.m.cell hin
                  have caj := (H6.old.cell (p := ⟨b0, off0 + (t + j), none⟩) hb0).trans (hc0 (t + j) hin)
                  have eA : (A : Int) / 2 ^ (8 * j) % 256 = bits BinOp.and IntKind.u8 (byteAt z0 (t + j)) (maskAt z1 len1 (t + j)) := by rw [HHA.out]; exact shrB_in _ _ _ _ _ hin hj8 (w0.range _) (w1.mask _)
                  have eM : (M : Int) / 2 ^ (8 * j) % 256 = maskAt z1 len1 (t + j) := by rw [HHM.out]; exact shrM_in _ _ _ _ hin hj8 (w1.mask _)
                  go_wp2
                  go_quiet (fail)
                  go_wp2
                  go_roundw
                  case rel => exact ⟨j + 1, _, by omega, by go_num, rfl⟩
                  case measure => simp [intOf]; omega
                · have hin' : ¬ ((t : Int) + (j : Int) < (len0 : Int)) := by omega
                  have eA : (A : Int) / 2 ^ (8 * j) % 256 = 0 := by rw [HHA.out]; exact shrB_out _ _ _ _ _ hin
                  have eM : (M : Int) / 2 ^ (8 * j) % 256 = 0 := by rw [HHM.out]; exact shrM_out _ _ _ _ hin
                  go_wp2
                  go_roundw
                  case rel => exact ⟨j + 1, _, by omega, by go_num, rfl⟩
                  case measure => simp [intOf]; omega
              · go_wp2
                go_roundw
                case rel => exact ⟨k + 1, by omega, by go_num, by rw [endAt_next ps k, ← HA.out]; go_num, H6.below ⟨rfl, rfl, rfl, Nat.le_refl _, fun _ _ => rfl⟩⟩
                case measure => simp [intOf]; omega
      · obtain rfl : k = np := by omega
        have HR : Hid (∀ j, endAt ps k ≤ j → j < len0 → maskAt z1 len1 j = 0) := fun j h1 h2 => hst.rest j (by rw [← HNP.out]; exact h1) (by omega)
        obtain ⟨e, he⟩ : ∃ e : Nat, e = endAt ps k := ⟨_, rfl⟩
        rw [← he] at HR
        rw [← he]
        have HE : Hid (e = endAt ps k) := he
        have heb : e ≤ 2000 := by
          have h1 := hst.last
          rw [← HNP.out, ← he] at h1
          rw [he]
          exact endAt_le hst k (by rw [HNP.out]; omega) h0
        clear he
        have c2 := H.r2
        go_wp2
        go_loop [16] (fun i => ∃ t : Nat, e ≤ t ∧ t ≤ 2000 ∧ i = .int .i64 t) (fun i => len0 - (intOf i).toNat)
        case atStart => exact ⟨e, Nat.le_refl _, heb, rfl⟩
        case round =>
          obtain ⟨t, ht1, ht2, rfl⟩ := hrel
          by_cases hta : t < len0
          · have cm := H.m.cell (i := t) (by omega)
            have hz : (maskAt z1 len1 t != 0) = false := by rw [HR.out t ht1 hta]; rfl
            go_wp2
            go_round
            case rel => exact ⟨t + 1, by omega, by omega, by go_num⟩
            case measure => simp [intOf]; omega
          · go_wp2
            go_ret
            exact ⟨rfl, H.old⟩

set_option maxHeartbeats 4000000 in
set_option maxRecDepth 100000 in
theorem probes_none (a0 : Option Addr) (len0 cap0 : Nat) (z0 : List Int) (a1 : Option Addr) (len1 cap1 : Nat) (z1 : List Int) (w : World) (w0 : IsRow .u8 w a0 len0 cap0 z0) (w1 : IsRow .u8 w a1 len1 cap1 z1) (hle : len0 ≤ 0) :
    Calls Yba.prog 4 #[.slice a0 len0 cap0, .slice a1 len1 cap1] w fun e w' => e = .returned (.bool true) ∧ Below w.heap.size w w' := by
  have h0 : len0 ≤ 1024 := by omega
  have hmk := fun w => run_make_row' (P := Yba.prog) 22 5 (.int .u8 0) 1 Yba.underlying22 Yba.info5 rfl .i64 .i64 len0 (by omega) (by omega) w
  have hi5 : (Yba.prog.info? 5).map (·.size) = some 1 := by kernel_rfl
  go_enter Yba.func4, Yba.ntmps4
  go_wp2_with (first
    | (go_at_call 7; refine (mask_calls a0 len0 cap0 a1 len1 cap1 z1 _ h0 w1).mono ?_; rintro e w2 ⟨rfl, hr2, hb2, hs2⟩; have hin := in_block w2 len0; rw [hs2] at hin; have hb3 := hb2.alloc (o := .cells (madeCells #[Value.int .u8 0] len0) 5) hb2.size)
    | (with_reducible (show wpList _ _ _ ({ dst := _, op := Op.call { callee := Callee.builtin Builtin.copy, args := _, argTypes := _ }, type := _, pos := _, after := _, guard := _ } :: _) _ _)
       refine wpList_copy_splice rfl (.tmp 26) (.tmp 27) 22 22 rfl 5 Yba.underlying22 hi5 _ _ _ _ _ _ rfl rfl (w.heap.size + 1) 0 _ 5 hin (bcells len0 (byteAt z0)) (by simp [length_bcells]) (fun hp => ⟨rfl, src_cells w0 hb3 hp⟩) (by simp [length_bcells]) bcells_one (w.heap.size + 1) _ (Below.refl _ _) (Nat.le_refl _) ?_
       intro w3 HG3 hc3))
  have hm3 := (hr2.alloc (.cells (madeCells #[Value.int .u8 0] len0) 5)).of_block (hc3.block _ (by omega))
  have hi3 := HG3.out
  rw [splice_all] at hi3
  have hi3' := row_of_cells hi3
  have hz3 : w.heap.size + 1 ≤ w3.heap.size := by have := hc3.size; simp [hs2] at this; omega
  have hb3' := hb3.trans (hc3.mono (by omega))
  clear hi3 HG3 hin hr2 hc3 hb3 hb2 hs2 hmk
  refine (newRun_calls (w.heap.size + 1) w.heap.size len0 (byteAt z0) (maskAt z1 len1) w3 h0 hi3' hm3 (fun j _ => w0.range j) (fun j _ => w1.mask j)).mono ?_
  rintro e w4 ⟨gb, gc, cap, ao, np, cp, rfl, ho, hb4⟩
  obtain ⟨ps, i9, hnp, hni, hst, hfew, hown⟩ := ho.p
  clear hi3' ho
  rw [← hnp] at hown
  have hown' := hown
  have hl0 : np = 0 := by
    rw [hnp]
    by_cases h : 0 < ps.length
    · have := (hst.each 0 h).2.1; omega
    · omega
  rcases hown.2 with ⟨hv, hlen⟩ | ⟨gp, cp', cur, hv, hg, _⟩
  · simp only [Value.slice.injEq] at hv
    obtain ⟨rfl, rfl, rfl⟩ := hv
    have z4 := hb4.size
    have hfin := (hb3'.trans (hb4.mono (by omega))).alloc (o := .cells #[.slice (some ⟨gb, 0, none⟩) len0 len0, .slice (some ⟨gc, 0, none⟩) len0 cap, .slice none 0 0] 28) (by omega)
    clear hm3 hz3 hb4 hb3' hown hown' hnp hst
    go_wp2
    refine wp_loop_rounds 1 ?_
    rw [rounds_succ]
    go_wp2
    go_loop [16] (fun i => ∃ t : Nat, t ≤ len0 ∧ i = .int .i64 t) (fun i => len0 - (intOf i).toNat)
    case atStart => exact ⟨0, Nat.zero_le _, rfl⟩
    case round =>
      obtain ⟨t, ht1, rfl⟩ := hrel
      by_cases hta : t < len0
      · exact absurd hta (by omega)
      · go_wp2
        go_ret
        exact ⟨rfl, hfin⟩
  · simp only [Value.slice.injEq, true_and] at hv
    obtain ⟨hv1, hv2⟩ := hv
    subst hv1 hl0
    clear hv2
    have z4 := hb4.size
    have hfin := (hb3'.trans (hb4.mono (by omega))).alloc (o := .cells #[.slice (some ⟨gb, 0, none⟩) len0 len0, .slice (some ⟨gc, 0, none⟩) len0 cap, .slice (some ⟨gp, 0, none⟩) 0 cp] 28) (by omega)
    clear hm3 hz3 hb4 hb3' hown hown' hnp hst
    go_wp2
    refine wp_loop_rounds 1 ?_
    rw [rounds_succ]
    go_wp2
    go_loop [16] (fun i => ∃ t : Nat, t ≤ len0 ∧ i = .int .i64 t) (fun i => len0 - (intOf i).toNat)
    case atStart => exact ⟨0, Nat.zero_le _, rfl⟩
    case round =>
      obtain ⟨t, ht1, rfl⟩ := hrel
      by_cases hta : t < len0
      · exact absurd hta (by omega)
      · go_wp2
        go_ret
        exact ⟨rfl, hfin⟩

theorem probes_large (a0 : Option Addr) (len0 cap0 : Nat) (a1 : Option Addr) (len1 cap1 : Nat) (w : World) (h0 : ¬ len0 ≤ 1024) :
    Calls Yba.prog 4 #[.slice a0 len0 cap0, .slice a1 len1 cap1] w fun e w' => e = .returned (.bool true) ∧ Below w.heap.size w w' := by
  have h1 : (1024 : Int) < (len0 : Int) := by omega
  go_enter Yba.func4, Yba.ntmps4
  go_wp2
  go_ret
  exact ⟨rfl, Below.refl _ _⟩

theorem probes_walk (a0 : Option Addr) (len0 cap0 : Nat) (z0 : List Int) (a1 : Option Addr) (len1 cap1 : Nat) (z1 : List Int) (w : World) (w0 : IsRow .u8 w a0 len0 cap0 z0) (w1 : IsRow .u8 w a1 len1 cap1 z1) :
    Calls Yba.prog 4 #[.slice a0 len0 cap0, .slice a1 len1 cap1] w fun e w' => e = .returned (.bool true) ∧ Below w.heap.size w w' := by
  by_cases h0 : len0 ≤ 1024
  · by_cases hp : 0 < len0
    · obtain ⟨b, off, rfl, hl, hm, hz, hb, hc⟩ := w0.lies hp
      exact probes_some b off len0 cap0 z0 a1 len1 cap1 z1 w w0 w1 h0 hb (fun j hj => hc j (by omega))
    · exact probes_none a0 len0 cap0 z0 a1 len1 cap1 z1 w w0 w1 (by omega)
  · exact probes_large a0 len0 cap0 a1 len1 cap1 w h0
end Go.Proofs.Ybulkyqs
