import Derived.Test.YbulkyvaRun
import Derived.Test.YbulkyvaMarks
import Derived.Deep.Cut
namespace Go.Proofs.Ybulkyva
open Go.RowKit
set_option linter.unusedVariables false
set_option linter.unusedSimpArgs false

theorem heldB_congr {f g : Nat → Int} {Fa : Nat → Bool} {x : Int} {n : Nat} (h : ∀ i, i < n → Fa i = false → f i = g i) : heldB f Fa x n = heldB g Fa x n := by
  induction n with
  | zero => rfl
  | succ n ih =>
    have e := ih (fun i hi => h i (by omega))
    cases hF : Fa n
    · simp [heldB, e, h n (by omega) hF]
    · simp [heldB, e, hF]
theorem termB_congr {f g : Nat → Int} {Fa : Nat → Bool} {n : Nat} (h : ∀ i, i < n → Fa i = false → f i = g i) : termB f Fa n = termB g Fa n := by
  induction n with
  | zero => rfl
  | succ n ih =>
    have e := ih (fun i hi => h i (by omega))
    cases hF : Fa n
    · simp [termB, e, h n (by omega) hF]
    · simp [termB, e, hF]
theorem nfB_zero {Fa : Nat → Bool} {n : Nat} (h : nfB Fa n = 0) : ∀ i, i < n → Fa i = true := by
  intro i hi
  cases hF : Fa i
  · have e1 := nfB_free hF
    have e2 := nfB_mono (Fa := Fa) (show i + 1 ≤ n by omega)
    omega
  · rfl
theorem decs_free {f : Nat → Int} {Fa : Nat → Bool} {n i : Nat} (h : Fa i = false) : decs f Fa n i = f i := by simp [decs, h]
theorem decs_marked {f : Nat → Int} {Fa : Nat → Bool} {n i : Nat} (hi : i < n) (h : Fa i = true) : decs f Fa n i = -1 := by simp [decs, h, hi]

theorem IRow.drewN {W : World} {g n : Nat} {f : Nat → Int} (h : IRow W g n f) (q : Nat) : IRow (W.drewN q) g n f := h
theorem Chg.of_drewN {B : Nat} {X : Nat → Prop} {W W' : World} {q : Nat} (h : Chg B X (W.drewN q) W') : Chg B X W W' := ⟨⟨h.below.os, h.below.tape, h.below.output, h.below.size, h.below.block⟩, h.same⟩

def fmk (fl : Nat) (bs : Nat → Bool) (k i : Nat) : Bool := if i < k then inM fl bs i else false
theorem fmk_step (fl : Nat) (bs : Nat → Bool) (k : Nat) : (fun j => if j = k then Value.bool (inM fl bs k) else Value.bool (fmk fl bs k j)) = fun j => Value.bool (fmk fl bs (k + 1) j) := by
  funext j
  by_cases e : j = k
  · subst e; simp [fmk]
  · by_cases l : j < k
    · have : j < k + 1 := by omega
      simp [e, fmk, l, this]
    · have : ¬ j < k + 1 := by omega
      simp [e, fmk, l, this]

set_option maxHeartbeats 4000000 in
set_option maxRecDepth 100000 in
theorem iter_in (a fa : Option Addr) (n cap fl fc : Nat) (zs : List Int) (bs : Nat → Bool) (s : Int) (w : World) (hn : n ≤ 64) (hs0 : 0 ≤ s) (hs1 : s < 256) (hr : IsRow .i64 w a n cap zs) (hf : Bools w fa fl fc bs) :
    Calls Yba.prog 4 #[.slice a n cap, .slice fa fl fc, .int .u8 s] w fun e w' => e = .returned (.bool true) ∧ Below w.heap.size w w' := by
  have hn' : (n : Int) ≤ 64 := by omega
  obtain ⟨f, hf2⟩ : ∃ f : Nat, s % 3 = (f : Int) := ⟨(s % 3).toNat, by omega⟩
  have hf3 : f ≤ 2 := by omega
  obtain ⟨S, hS⟩ : ∃ S, w.heap.size = S := ⟨_, rfl⟩
  have b1 : Below w.heap.size w ((w.alloc (.cells #[.int .i64 n] 3)).alloc (.cells #[.int .i64 f] 3)) := (below_one _ _).alloc (by simp) _
  have z1 : ((w.alloc (.cells #[.int .i64 n] 3)).alloc (.cells #[.int .i64 f] 3)).heap.size = S + 2 := by simp [hS]
  have A1 : ((w.alloc (.cells #[.int .i64 n] 3)).alloc (.cells #[.int .i64 f] 3)).heap[S]? = some (.cells #[.int .i64 n] 3) := by rw [← hS]; exact alloc_keep (blk_new _ _)
  have A2 : ((w.alloc (.cells #[.int .i64 n] 3)).alloc (.cells #[.int .i64 f] 3)).heap[S + 1]? = some (.cells #[.int .i64 f] 3) := by rw [← hS]; exact blk_3 _ _ _
  have src : n = 0 ∨ ∃ x, a = some x ∧ ∀ i, i < n → ((w.alloc (.cells #[.int .i64 n] 3)).alloc (.cells #[.int .i64 f] 3)).cell? (x.add i) = some (.int .i64 (zf zs i)) := by
    rcases hr with ⟨_, h, _⟩ | ⟨x, e, hl, hm, hz, hc, _⟩
    · exact .inl h
    · exact .inr ⟨x, e, fun i hi => by have h0 := hc i (by omega); exact (b1.cell (World.block_lt_of_cell? w _ h0)).trans h0⟩
  go_enter Yba.func4, Yba.ntmps4
  go_wp2_with fail
  obtain ⟨W1, hW1⟩ : ∃ W1, (w.alloc (.cells #[.int .i64 n] 3)).alloc (.cells #[.int .i64 f] 3) = W1 := ⟨_, rfl⟩
  rw [hW1] at b1 z1 A1 A2 src ⊢
  refine (clone_calls a n cap (zf zs) _ (by omega) src).mono ?_
  rintro e w2 ⟨ia, gi, ic, rfl, hb2, hgi, hin⟩
  clear src hW1
  have HS : Hid (w.heap.size = S) := hS
  have B1 := zz0 hb2 A1
  have B2 := zz0 hb2 A2
  have b2 : Below w.heap.size w w2 := b1.trans (hb2.mono b1.size)
  clear A1 A2 hS
  have z2 := hb2.size
  obtain ⟨P, hP⟩ : ∃ P, w2.heap.size = P := ⟨_, rfl⟩
  have B0 : (w2.alloc (.cells #[.slice none 0 0] 44)).heap[P]? = some (.cells #[.slice none 0 0] 44) := by rw [← hP]; exact blk_new _ _
  have B1' := alloc_keep (o' := .cells #[.slice none 0 0] 44) B1
  have hnl := fun (w : World) (a : Option Addr) (n c : Nat) => run_neq_slice_nil_any (P := Yba.prog) w 44 4 a n c 0 0 Yba.underlying44
  go_upto_if 41 with fail
  go_cut [] from 30 (fun wq => ∃ ffa ffl ffc Fa, wq.heap[P]? = some (.cells #[.slice ffa ffl ffc] 44) ∧ Marks wq ffa ffl ffc n Fa ∧ (ffa ≠ none → ffl = n) ∧ ffl ≤ 64 ∧ (∀ b o, ffa = some ⟨b, o, none⟩ → b = P + 1) ∧ Below w2.heap.size w2 wq ∧ P < wq.heap.size)
  case first =>
    rcases hf with ⟨rfl, rfl, rfl⟩ | ⟨x, rfl, hl, hm, hc⟩
    · go_wp2
      go_meet
      case rel => exact ⟨none, 0, 0, fun _ => false, B0, .inl ⟨rfl, rfl, rfl, fun _ => rfl⟩, fun h => absurd rfl h, by omega, fun b o e => by simp at e, below_one _ _, by simp [hP]⟩
    · have hmk := fun w => run_make_row' (P := Yba.prog) 44 4 (.bool false) 1 Yba.underlying44 Yba.info4 rfl .i64 .i64 n (by omega) (by omega) w
      have x1 := cells_at (i := 0) (v := .int .i64 n) B1' rfl
      have x2 := fun o => cells_at (i := 0) (v := .slice none 0 0) (alloc_keep (o' := o) B0) rfl
      have x3 := fun o => frozen_at (alloc_keep (o' := o) B0) 0
      go_wp2
      have W3a := blk_3 w2 (.cells #[.slice (some ⟨P + 1, 0, none⟩) n n] 44) (.cells (madeCells #[.bool false] n) 4)
      have W3b : ((w2.alloc (.cells #[.slice (some ⟨P + 1, 0, none⟩) n n] 44)).alloc (.cells (madeCells #[.bool false] n) 4)).heap[P]? = some (.cells #[.slice (some ⟨P + 1, 0, none⟩) n n] 44) := by rw [← hP]; exact alloc_keep (blk_new _ _)
      have W3c : Below w2.heap.size w2 ((w2.alloc (.cells #[.slice (some ⟨P + 1, 0, none⟩) n n] 44)).alloc (.cells (madeCells #[.bool false] n) 4)) := (below_one _ _).alloc (by simp) _
      rw [hP] at W3a
      have HP : Hid (w2.heap.size = P) := hP
      clear hmk x1 x2 x3 hP
      simp only [Option.isSome_some]
      go_loopw [11] (fun i wr => ∃ k : Nat, k ≤ n ∧ i = .int .i64 k ∧ wr.rowIs (P + 1) 4 n (fun i => .bool (fmk fl bs k i)) ∧ wr.heap[P]? = some (.cells #[.slice (some ⟨P + 1, 0, none⟩) n n] 44) ∧ Below w2.heap.size w2 wr) (fun i _ => n - (intOf i).toNat)
      case atStart => exact ⟨0, Nat.zero_le _, rfl, (made_row W3a).congr (fun i hi => by simp [fmk]), W3b, W3c⟩
      case round =>
        obtain ⟨k, hk, rfl, H, hbf, hnx⟩ := hrel
        have hP := HP.out
        have y1 := cells_at (i := 0) (v := .int .i64 n) ((hnx.block S (by omega)).trans B1) rfl
        by_cases hlt : k < n
        · have y2 := cells_at (i := 0) (v := .slice (some ⟨P + 1, 0, none⟩) n n) hbf rfl
          have y3 := H.cell hlt
          have y4 := H.frozen k
          have hkn : (k : Int) < (n : Int) := by omega
          have hPn : ¬ P = P + 1 := by omega
          clear hP
          by_cases hkl : k < fl
          · obtain ⟨b, off, spot⟩ := x
            have hspot : spot = none := by simpa [Addr.add] using World.cell?_spot (hc 0 (by omega))
            subst hspot
            have hck : w.cell? ⟨b, off + k, none⟩ = some (.bool (bs k)) := by rw [← Addr.add_lit]; exact hc k hkl
            have hbl := World.block_lt_of_cell? w _ hck
            have y5 := (hnx.cell (p := ⟨b, off + k, none⟩) (Nat.lt_of_lt_of_le hbl b2.size)).trans ((b2.cell (p := ⟨b, off + k, none⟩) hbl).trans hck)
            have hkl' : (k : Int) < (fl : Int) := by omega
            have HB : Hid (inM fl bs k = bs k) := by show inM fl bs k = bs k; simp [inM, hkl]
            have hflm : (fl : Int) ≤ maxLen := by omega
            unfold maxLen at hflm
            have hbP : ¬ b = P + 1 := by have := HP.out; have := b2.size; (try dsimp only at hbl); omega
            as_aux_lemma =>
              go_wp2
              go_region
              go_wp2
              go_roundw
              case rel => exact ⟨k + 1, by omega, by go_num, by rw [← fmk_step, HB.out]; exact (H.set k _).drew, (Below.heap_setCell _ _ _ _ (by (try dsimp only); omega)).trans hbf, (hnx.setCell (p := ⟨P + 1, k, none⟩) (by have := HP.out; (try dsimp only); omega) _).drew⟩
              case measure => simp [intOf]; omega
          · have hkl' : decide ((k : Int) < (fl : Int)) = false := decide_eq_false (by omega)
            have hkl2 : decide (k < fl) = false := decide_eq_false (by omega)
            have HB : Hid (inM fl bs k = false) := by show inM fl bs k = false; simp [inM, hkl]
            as_aux_lemma =>
              go_wp2
              go_region
              go_wp2
              go_roundw
              case rel => exact ⟨k + 1, by omega, by go_num, by rw [← fmk_step, HB.out]; exact (H.set k _).drew, (Below.heap_setCell _ _ _ _ (by (try dsimp only); omega)).trans hbf, (hnx.setCell (p := ⟨P + 1, k, none⟩) (by have := HP.out; (try dsimp only); omega) _).drew⟩
              case measure => simp [intOf]; omega
        · obtain rfl : k = n := by omega
          clear hP
          go_wp2
          go_meet
          case rel => exact ⟨some ⟨P + 1, 0, none⟩, k, k, fmk fl bs k, hbf, .inr ⟨P + 1, 0, rfl, Nat.le_refl _, H.lt, fun i hi => by rw [Nat.zero_add]; exact H.cell hi⟩, fun _ => rfl, by omega, fun b o e => by simp at e; exact e.1.symm, hnx, by have := H.lt; omega⟩
  case rest =>
    obtain ⟨ffa, ffl, ffc, Fa, F1, F2, F3, F4, F5, bq, lq⟩ := hcut
    have HP : Hid (w2.heap.size = P) := hP
    have C1 := zz0 bq B1
    have C2 := zz0 bq B2
    have I2 := hin.below bq
    clear B0 B1 B2 B1' hf
    have HF5 : Hid (∀ b o, ffa = some ⟨b, o, none⟩ → b = P + 1) := F5
    have HF3 : Hid (ffa ≠ none → ffl = n) := F3
    clear F5 F3
    obtain ⟨Q, hQ⟩ : ∃ Q, wc.heap.size = Q := ⟨_, rfl⟩
    have x1 := fun o => cells_at (i := 0) (v := .int .i64 n) (alloc_keep (o' := o) C1) rfl
    clear hP
    go_wp2
    have N0 : (wc.alloc (.cells #[.int .i64 0] 3)).heap[Q]? = some (.cells #[.int .i64 0] 3) := by rw [← hQ]; exact blk_new _ _
    have HQ : Hid (wc.heap.size = Q) := hQ
    have bw0 : Below wc.heap.size wc (wc.alloc (.cells #[.int .i64 0] 3)) := below_one _ _
    clear x1 hQ
    go_loopw [13] (fun i wr => ∃ k : Nat, k ≤ n ∧ i = .int .i64 k ∧ wr.heap[Q]? = some (.cells #[.int .i64 (nfB Fa k : Nat)] 3) ∧ Below wc.heap.size wc wr) (fun i _ => n - (intOf i).toNat)
    case atStart => exact ⟨0, Nat.zero_le _, rfl, N0, bw0⟩
    case round =>
      obtain ⟨k, hk, rfl, H, hnx⟩ := hrel
      have lS : S < wc.heap.size := blk_lt C1
      have y1 := cells_at (i := 0) (v := .int .i64 n) ((hnx.block S lS).trans C1) rfl
      by_cases hlt : k < n
      · have y2 := cells_at (i := 0) (v := .int .i64 (nfB Fa k : Nat)) H rfl
        have y3 := frozen_at H 0
        have y4 := cells_at (i := 0) (v := .slice ffa ffl ffc) ((hnx.block P lq).trans F1) rfl
        have hkn : (k : Int) < (n : Int) := by omega
        have hnb : (nfB Fa k : Int) ≤ 64 := by have := nfB_le Fa k; omega
        have hb' : Below wc.heap.size wc (wr.setCell ⟨Q, 0, none⟩ (.int .i64 ((nfB Fa k : Int) + 1))) := hnx.setCell (p := ⟨Q, 0, none⟩) (by have := HQ.out; (try dsimp only); omega) _
        rcases F2 with ⟨e1, e2, e3, e4⟩ | ⟨bb, oo, e1, hle, hll, hcc⟩
        · have e5 := e4 k
          have HN := nfB_free e5
          subst e1
          have HH : Hid (nfB Fa (k + 1) = nfB Fa k + 1) := HN
          clear HN e5 e4
          as_aux_lemma =>
            go_wp2
            go_roundw
            case rel => exact ⟨k + 1, by omega, by go_num, by rw [HH.out]; have := blk_set (i := 0) (v := .int .i64 ((nfB Fa k : Int) + 1)) H; simpa using this, hb'⟩
            case measure => simp [intOf]; omega
        · have e6 := HF5.out bb oo e1
          subst e6
          subst e1
          have y5 := (hnx.cell (p := ⟨P + 1, oo + k, none⟩) hll).trans (hcc k hlt)
          have hle' : (k : Int) < (ffl : Int) := by omega
          have hfl' : (ffl : Int) ≤ 64 := by omega
          cases e5 : Fa k
          · have HH : Hid (nfB Fa (k + 1) = nfB Fa k + 1) := nfB_free e5
            rw [e5] at y5
            as_aux_lemma =>
              go_wp2
              go_roundw
              case rel => exact ⟨k + 1, by omega, by go_num, by rw [HH.out]; have := blk_set (i := 0) (v := .int .i64 ((nfB Fa k : Int) + 1)) H; simpa using this, hb'⟩
              case measure => simp [intOf]; omega
          · have HH : Hid (nfB Fa (k + 1) = nfB Fa k) := nfB_mark e5
            rw [e5] at y5
            as_aux_lemma =>
              go_wp2
              go_roundw
              case rel => exact ⟨k + 1, by omega, by go_num, by rw [HH.out]; exact H, hnx⟩
              case measure => simp [intOf]; omega
      · obtain rfl : k = n := by omega
        have D1 := (hnx.block S lS).trans C1
        have D2 := (hnx.block (S + 1) (blk_lt C2)).trans C2
        have DP := (hnx.block P lq).trans F1
        have lQ := blk_lt H
        have MK := F2.below hnx
        have I3 := I2.below hnx
        have b0r : Below w.heap.size w wr := b2.trans ((bq.trans (hnx.mono bq.size)).mono b2.size)
        have hFa : ∀ b o, ffa = some ⟨b, o, none⟩ → b = P + 1 ∧ b < Q := fun b o e => ⟨HF5.out b o e, by
          rcases F2 with ⟨e1, _⟩ | ⟨bb, oo, e1, _, hl, _⟩
          · rw [e1] at e; simp at e
          · rw [e1] at e; simp at e; have := HQ.out; omega⟩
        clear F2 F1 C1 C2 I2 bq hnx N0 bw0 lS
        go_wp2_with fail
        clear y1
        refine (clone_sl ia k ic gi (zf zs) wr (by omega) I3).mono ?_
        rintro e w4 ⟨ca, gc, cc, rfl, hb4, hgc, rc4⟩
        obtain ⟨C, hC⟩ : ∃ C, w4.heap.size = C := ⟨_, rfl⟩
        have E0 : (w4.alloc (.cells #[.slice ca k cc] 30)).heap[C]? = some (.cells #[.slice ca k cc] 30) := by rw [← hC]; exact blk_new _ _
        have b45 : Below w4.heap.size w4 (w4.alloc (.cells #[.slice ca k cc] 30)) := below_one _ _
        have z45 : (w4.alloc (.cells #[.slice ca k cc] 30)).heap.size = C + 1 := by simp [hC]
        go_wp2_with fail
        refine (clone_sl ia k ic gi (zf zs) _ (by omega) ((I3.below hb4).below b45)).mono ?_
        rintro e w5 ⟨xa, gx, cx, rfl, hb5, hgx, rx5⟩
        rw [z45] at hgx
        obtain ⟨X, hX⟩ : ∃ X, w5.heap.size = X := ⟨_, rfl⟩
        have zX := hb5.size
        rw [z45] at zX
        go_upto_region 27 with fail
        obtain ⟨V, hV⟩ : ∃ V, ((((((w5.alloc (.cells #[.slice xa k cx] 30)).alloc (.cells #[.bool true] 4)).alloc (.cells #[.int .i64 0] 3)).alloc (.cells #[.int .i64 0] 3)).alloc (.cells #[.int .i64 (-1)] 3)).alloc (.cells #[.slice none 0 0] 30)) = V := ⟨_, rfl⟩
        obtain ⟨e0, e1, e2, e3, e4, e5, bV, zV⟩ := six_boxes w5 _ _ _ _ _ _ hX hV
        rw [hV]
        clear hV
        have zr4 := hb4.size
        have b4V : Below w4.heap.size w4 V := (b45.trans (hb5.mono (by omega))).trans (bV.mono (by omega))
        have bCV : Below (w4.alloc (.cells #[.slice ca k cc] 30)).heap.size (w4.alloc (.cells #[.slice ca k cc] 30)) V := hb5.trans (bV.mono (by omega))
        have brV : Below wr.heap.size wr V := hb4.trans (b4V.mono zr4)
        have lP := HP.out
        have lQ' := HQ.out
        have gil : 0 < k → gi < P := fun hp => by have := hin.lt hp; omega
        have gcl : 0 < k → gc < C := fun hp => by have := rc4.lt hp; omega
        have gxl : 0 < k → gx < X := fun hp => by have := rx5.lt hp; omega
        obtain ⟨E, en, ef, enf, efa, efl, efc, eFa, ebn, ebf, ebfl, ebnf, ebcur, ebnxt, ebok, ebs, ebc, ebl, ebp, eca, ecc, egc, exa, ecx, egx⟩ : ∃ E : Env, E.n = k ∧ E.f = f ∧ E.nf = nfB Fa k ∧ E.fa = ffa ∧ E.fl = ffl ∧ E.fc = ffc ∧ E.Fa = Fa ∧ E.bn = S ∧ E.bf = S + 1 ∧ E.bfl = P ∧ E.bnf = Q ∧ E.bcur = C ∧ E.bnxt = X ∧ E.bok = X + 1 ∧ E.bseen = X + 1 + 1 ∧ E.bcalls = X + 1 + 1 + 1 ∧ E.blast = X + 1 + 1 + 1 + 1 ∧ E.bprev = X + 1 + 1 + 1 + 1 + 1 ∧ E.ca = ca ∧ E.cc = cc ∧ E.gc = gc ∧ E.xa = xa ∧ E.cx = cx ∧ E.gx = gx :=
          ⟨⟨k, f, nfB Fa k, ffa, ffl, ffc, Fa, S, S + 1, P, Q, C, X, X + 1, X + 1 + 1, X + 1 + 1 + 1, X + 1 + 1 + 1 + 1, X + 1 + 1 + 1 + 1 + 1, ca, cc, gc, xa, cx, gx⟩, rfl, rfl, rfl, rfl, rfl, rfl, rfl, rfl, rfl, rfl, rfl, rfl, rfl, rfl, rfl, rfl, rfl, rfl, rfl, rfl, rfl, rfl, rfl, rfl⟩
        subst en; subst ef; subst efa; subst efl; subst efc; subst eFa; subst eca; subst ecc; subst egc; subst exa; subst ecx; subst egx
        have lS := HS.out
        have hE : E.Ok w.heap.size := ⟨by omega, by omega, by omega, by omega, by omega, by omega, by omega, by omega, by omega, by omega, by omega, by omega, by omega, by omega, fun hp => by have := gcl hp; omega, fun hp => by have := gxl hp; omega, fun b o e => by have := hFa b o e; omega⟩
        have hCS : CS E 0 0 (-1) (.slice none 0 0) (zf zs) (zf zs) V := by
          refine ⟨?_, ?_, ?_, ?_, ?_, ?_, ?_, ?_, ?_, ?_, ?_, rc4.below b4V, rx5.below bV, MK.below brV⟩
          · rw [ebn]; exact zz0 brV D1
          · rw [ebf]; exact zz0 brV D2
          · rw [ebfl]; exact zz0 brV DP
          · rw [ebnf, enf]; exact zz0 brV H
          · rw [ebcur]; exact zz0 bCV E0
          · rw [ebnxt]; exact e0
          · rw [ebok]; exact e1
          · rw [ebs]; exact e2
          · rw [ebc]; exact e3
          · rw [ebl]; exact e4
          · rw [ebp]; exact e5
        have hiV : Sl V ia E.n gi (zf zs) := I3.below brV
        have hloV : Below w.heap.size w V := b0r.trans (brV.mono b0r.size)
        have K15 := run_calls E w.heap.size w V ia ic gi (zf zs) (-1) .nilIface hE hCS hiV hloV (fun hp => by have := gil hp; omega) HF3.out enf
        have hgiQ : 0 < E.n → gi ≤ E.bnf := fun hp => by have := gil hp; omega
        rw [← ebp, ← ebl, ← ebc, ← ebs, ← ebok, ← ebnxt, ← ebcur, ← ebnf, ← ebfl, ← ebf, ← ebn]
        have HK : Hid (∀ R : Ending → World → Prop, (∀ e w', (∃ sa sc T b1 b2, e = .returned (.agg (outv (.slice sa E.n sc) (!(heldB (decs T E.Fa E.n) E.Fa 0 E.n && heldB (decs T E.Fa E.n) E.Fa 1 E.n)) ((!heldB (decs T E.Fa E.n) E.Fa 0 E.n || heldB (zf zs) E.Fa 0 E.n) && (!heldB (decs T E.Fa E.n) E.Fa 1 E.n || heldB (zf zs) E.Fa 1 E.n)) (termB T E.Fa E.n) b1 b2)) ∧ RunPost E w w.heap.size ia gi (zf zs) sa sc T w') → R e w') →
            Calls Yba.prog 15 #[.agg #[.slice ia E.n ic, .slice E.fa E.fl E.fc, .nilIface], .int .i64 E.n, .int .i64 E.f, .func (.func 12) #[] (caps E)] V R) := fun R h => K15.mono h
        have hcl := cells_at (i := 0) (v := .slice E.fa E.fl E.fc) hCS.fl rfl
        have hcn := cells_at (i := 0) (v := .int .i64 E.n) hCS.n rfl
        have hcf := cells_at (i := 0) (v := .int .i64 E.f) hCS.f rfl
        clear K15 ebp ebl ebc ebs ebok ebnxt ebcur ebnf ebfl ebf ebn e0 e1 e2 e3 e4 e5 bV zV b4V bCV brV D1 D2 DP H MK I3 rc4 rx5 hb4 hb5 E0 b45 z45 hgx zX hX hC hgc lQ hFa HF5 HF3 HQ HP lP lQ' gil gcl gxl zr4 b0r hin hb2 b1 b2 z1 z2 hgi lq F4
        go_wp2_with fail
        refine HK.out _ ?_
        clear HK hcl hcn hcf hCS hiV hloV
        rintro e w6 ⟨sa, sc, T, b1, b2, rfl, RP⟩
        obtain ⟨seen, calls, lv, pv, U, gs, hcs, hsn, hcl, hut, hsd, hgsb⟩ := RP.ex
        have hri := RP.ri
        have hlo := RP.lo
        clear RP
        rw [heldB_congr (f := decs T E.Fa E.n) (g := T) (fun i _ h => decs_free h), heldB_congr (f := decs T E.Fa E.n) (g := T) (fun i _ h => decs_free h)]
        obtain ⟨ag, hag⟩ : ∃ ag, (!(heldB T E.Fa 0 E.n && heldB T E.Fa 1 E.n)) = ag := ⟨_, rfl⟩
        obtain ⟨va, hva⟩ : ∃ va, ((!heldB T E.Fa 0 E.n || heldB (zf zs) E.Fa 0 E.n) && (!heldB T E.Fa 1 E.n || heldB (zf zs) E.Fa 1 E.n)) = va := ⟨_, rfl⟩
        obtain ⟨te, hte⟩ : ∃ te, termB T E.Fa E.n = te := ⟨_, rfl⟩
        rw [hag, hva, hte]
        have HA : Hid ((!(heldB T E.Fa 0 E.n && heldB T E.Fa 1 E.n)) = ag) := hag
        have HV : Hid (((!heldB T E.Fa 0 E.n || heldB (zf zs) E.Fa 0 E.n) && (!heldB T E.Fa 1 E.n || heldB (zf zs) E.Fa 1 E.n)) = va) := hva
        have HT : Hid (termB T E.Fa E.n = te) := hte
        clear hag hva hte
        go_upto_region 28 with fail
        obtain ⟨O, hO⟩ : ∃ O, w6.heap.size = O := ⟨_, rfl⟩
        have bO : Below w6.heap.size w6 (w6.alloc (.cells (outv (.slice sa E.n sc) ag va te b1 b2) 61)) := below_one _ _
        have O7 : (w6.alloc (.cells (outv (.slice sa E.n sc) ag va te b1 b2) 61)).heap[O]? = some (.cells (outv (.slice sa E.n sc) ag va te b1 b2) 61) := by rw [← hO]; exact blk_new _ _
        have cs7 := hcs.below hE bO
        have ri7 := hri.below bO
        have sd7 := hsd.below bO
        have lo7 : Below w.heap.size w (w6.alloc (.cells (outv (.slice sa E.n sc) ag va te b1 b2) 61)) := hlo.trans (bO.mono hlo.size)
        obtain ⟨W7, hW7⟩ : ∃ W7, w6.alloc (.cells (outv (.slice sa E.n sc) ag va te b1 b2) 61) = W7 := ⟨_, rfl⟩
        rw [hW7] at O7 cs7 ri7 sd7 lo7 ⊢
        rw [hO]
        have hOb : E.bprev < O := by have := blk_lt hcs.pv; omega
        clear hW7 hO hcs hri hsd hlo bO
        have x1 := cells_at (i := 0) (v := .bool true) cs7.ok rfl
        have x2 := cells_at (i := 0) (v := .int .i64 (E.nf : Nat)) cs7.nf rfl
        go_upto_if 93 with fail
        go_cut [] from 30 (fun wq => ∃ U', Sl wq E.ca E.n E.gc U' ∧ (E.nf ≠ 0 → ∀ i, i < E.n → U' i = T i) ∧ Chg w.heap.size (fun b => 0 < E.n ∧ b = E.gc) W7 wq)
        case first =>
          by_cases hz : E.nf = 0
          · have hz' : (E.nf : Int) = 0 := by omega
            go_wp2
            go_meet
            case rel => exact ⟨U, cs7.rc, fun h => absurd hz h, Chg.refl _ _ _⟩
          · have hsc : seen = cnt E.n E.f := by rw [hsn, if_neg hz]
            have hs0 : seen ≠ 0 := by rw [hsc]; unfold cnt; omega
            have hcn := hcl hs0
            have hnn : 0 < E.n := by have h1 := enf; have h2 := nfB_le E.Fa E.n; omega
            obtain ⟨eca, rc⟩ := cs7.rc.row hnn
            obtain ⟨exa, rx⟩ := cs7.rx.row hnn
            have y1 := cells_at (i := 0) (v := .int .i64 (E.nf : Nat)) (hcn ▸ cs7.cl) rfl
            have y2 := cells_at (i := 0) (v := .int .i64 (cnt E.n E.f : Nat)) (hsc ▸ cs7.sn) rfl
            have y3 := cells_at (i := 0) (v := .int .i64 E.n) cs7.n rfl
            have y4 := cells_at (i := 0) (v := .int .i64 E.f) cs7.f rfl
            have y5 := cells_at (i := 0) (v := .slice (some ⟨E.gc, 0, none⟩) E.n E.cc) (eca ▸ cs7.cur) rfl
            have y6 := cells_at (i := 0) (v := .slice (some ⟨E.gx, 0, none⟩) E.n E.cx) (exa ▸ cs7.nxt) rfl
            have hzp : (0 : Int) < (E.nf : Int) := by omega
            have HC : Hid (∀ q : Nat, Calls Yba.prog 16 #[.int .i64 E.n, .int .i64 E.f] (W7.drewN q) fun e w' => e = .returned (.int .i64 (cnt E.n E.f : Nat)) ∧ w' = W7.drewN q) := fun q => (count_calls E.n E.f (W7.drewN q) hE.hn hE.hf).mono (fun e w' h => ⟨h.1, h.2.symm⟩)
            clear hsc hcn hs0
            go_wp2
            go_quiet ((go_at_call 16; exact Calls.quiet_of_same (HC.out _)))
            clear HC y1 y2 y3 y4
            go_wp2_with (with_reducible (show wpList _ _ _ ({ dst := _, op := Op.call { callee := Callee.builtin Builtin.copy, args := _, argTypes := _ }, type := _, pos := _, after := _, guard := _ } :: _) _ _); refine wpList_copy_rows rfl (.tmp 104) (.tmp 105) rfl E.gc E.gx E.n E.cc E.cx U T rfl rfl (rc.drewN _) (rx.drewN _) ?_; intro w8 rc8 hch8)
            go_meet
            case rel => exact ⟨T, .inr ⟨eca, rc8⟩, fun _ _ _ => rfl, (Chg.of_drewN (hch8 w.heap.size (by have := hE.oc hnn; have := hE.o0; have := hE.o1; have := hE.o2; have := hE.o3; omega))).mono (fun b hb => ⟨hnn, hb⟩)⟩
        case rest =>
          obtain ⟨U', rc', hU', hC'⟩ := hcut
          have o1 := hE.o1; have o2 := hE.o2; have o3 := hE.o3; have o4 := hE.o4; have o5 := hE.o5; have o6 := hE.o6; have o7 := hE.o7; have o8 := hE.o8; have o9 := hE.o9; have o10 := hE.o10
          have st : ∀ b, b < W7.heap.size → (0 < E.n → b ≠ E.gc) → wc.heap[b]? = W7.heap[b]? := fun b hl hb => hC'.same b hl (fun e => hb e.1 e.2)
          have N8 := (st E.bn (blk_lt cs7.n) (fun hp => by have := hE.oc hp; omega)).trans cs7.n
          have L8 := (st E.bfl (blk_lt cs7.fl) (fun hp => by have := hE.oc hp; omega)).trans cs7.fl
          have K8 := (st E.bcur (blk_lt cs7.cur) (fun hp => by have := hE.oc hp; omega)).trans cs7.cur
          have O8 := (st O (blk_lt O7) (fun hp => by have := hE.oc hp; omega)).trans O7
          have M8 : Marks wc E.fa E.fl E.fc E.n E.Fa := cs7.mks.chg hC' (fun b o e hx => by have := hE.ofa b o e; have := hE.oc hx.1; have := hx.2; omega)
          have D8 : Sl wc sa E.n gs (decs T E.Fa E.n) := sd7.of_block (fun hp => st gs (sd7.lt hp) (fun _ => by have := hE.oc hp; omega))
          have lo8 : Below w.heap.size w wc := lo7.trans hC'.below
          have hUT : ∀ i, i < E.n → E.Fa i = false → U' i = T i := fun i hi hF => by
            by_cases hz : E.nf = 0
            · have := nfB_zero (enf ▸ hz) i hi
              rw [this] at hF
              cases hF
            · exact hU' hz i hi
          have I8 : Sl wc ia E.n gi (zf zs) := ri7.of_block (fun hp => st gi (ri7.lt hp) (fun _ => by have := hE.oc hp; have := hgiQ hp; omega))
          have x3 := cells_at (i := 0) (v := .int .i64 E.n) N8 rfl
          have x4 := cells_at (i := 0) (v := .slice E.fa E.fl E.fc) L8 rfl
          have x5 := cells_at (i := 0) (v := .slice E.ca E.n E.cc) K8 rfl
          have p0 := cells_at (i := 0) (v := .slice sa E.n sc) O8 rfl
          have p1 := cells_at (i := 1) (v := .bool ag) O8 rfl
          have p2 := cells_at (i := 2) (v := .bool va) O8 rfl
          have p3 := cells_at (i := 3) (v := .bool te) O8 rfl
          have p6 := cells_at (i := 6) (v := .int .i64 0) O8 rfl
          have p7 := cells_at (i := 7) (v := .int .i64 0) O8 rfl
          have p8 := cells_at (i := 8) (v := .int .i64 0) O8 rfl
          have hn8 : (E.n : Int) ≤ 64 := by have := hE.hn; omega
          clear x1 x2 N8 L8 K8 O8 o1 o2 o3 o4 o5 o6 o7 o8 o9 o10 st cs7 ri7 sd7 lo7 O7 hC' hU' hut hsn hcl
          go_wp2
          go_loopw [23, 24, 25, 26, 27, 28] (fun h0 h1 i0 i1 t i wr => ∃ j : Nat, j ≤ E.n ∧ i = .int .i64 j ∧ h0 = .bool (heldB U' E.Fa 0 j) ∧ h1 = .bool (heldB U' E.Fa 1 j) ∧ i0 = .bool (heldB (zf zs) E.Fa 0 j) ∧ i1 = .bool (heldB (zf zs) E.Fa 1 j) ∧ t = .bool (termB U' E.Fa j) ∧ wr = wc) (fun _ _ _ _ _ i _ => E.n - (intOf i).toNat)
          case atStart => exact ⟨0, Nat.zero_le _, rfl, rfl, rfl, rfl, rfl, rfl, rfl⟩
          case round =>
            obtain ⟨j, hj, rfl, rfl, rfl, rfl, rfl, rfl, rfl⟩ := hrel
            by_cases hlt : j < E.n
            · have hnn : 0 < E.n := by omega
              obtain ⟨eca, rc⟩ := rc'.row hnn
              obtain ⟨esa, rd⟩ := D8.row hnn
              obtain ⟨eia, ri⟩ := I8.row hnn
              subst esa; subst eia
              rw [eca] at x5
              have y1 := rc.cell hlt
              have y2 := rd.cell hlt
              have y3 := ri.cell hlt
              have hjn : (j : Int) < (E.n : Int) := by omega
              cases hF : E.Fa j
              · have y4 : decs T E.Fa E.n j = U' j := by rw [decs_free hF]; exact (hUT j hlt hF).symm
                rw [y4] at y2
                clear y4 hUT
                rcases M8 with ⟨e1, e2, e3, _⟩ | ⟨bb, oo, e1, hle, hll, hcc⟩
                · rw [e1] at x4
                  by_cases d0 : U' j = 0
                  · rw [d0] at y1 y2
                    by_cases i0 : zf zs j = 0
                    · rw [i0] at y3
                      have HH : Hid (heldB U' E.Fa 0 (j + 1) = true ∧ heldB U' E.Fa 1 (j + 1) = heldB U' E.Fa 1 j ∧ heldB (zf zs) E.Fa 0 (j + 1) = true ∧ heldB (zf zs) E.Fa 1 (j + 1) = heldB (zf zs) E.Fa 1 j ∧ termB U' E.Fa (j + 1) = termB U' E.Fa j) := by refine ⟨?_, ?_, ?_, ?_, ?_⟩ <;> simp [heldB, termB, hF, d0, i0]
                      clear d0 i0
                      as_aux_lemma =>
                        go_wp2
                        go_roundw
                        case rel => exact ⟨j + 1, by omega, by go_num, by rw [HH.out.1], by rw [HH.out.2.1], by rw [HH.out.2.2.1], by rw [HH.out.2.2.2.1], by rw [HH.out.2.2.2.2], trivial⟩
                        case measure => simp [intOf]; omega
                    · by_cases i1 : zf zs j = 1
                      · rw [i1] at y3
                        have HH : Hid (heldB U' E.Fa 0 (j + 1) = true ∧ heldB U' E.Fa 1 (j + 1) = heldB U' E.Fa 1 j ∧ heldB (zf zs) E.Fa 0 (j + 1) = heldB (zf zs) E.Fa 0 j ∧ heldB (zf zs) E.Fa 1 (j + 1) = true ∧ termB U' E.Fa (j + 1) = termB U' E.Fa j) := by refine ⟨?_, ?_, ?_, ?_, ?_⟩ <;> simp [heldB, termB, hF, d0, i1]
                        clear d0 i1 i0
                        as_aux_lemma =>
                          go_wp2
                          go_roundw
                          case rel => exact ⟨j + 1, by omega, by go_num, by rw [HH.out.1], by rw [HH.out.2.1], by rw [HH.out.2.2.1], by rw [HH.out.2.2.2.1], by rw [HH.out.2.2.2.2], trivial⟩
                          case measure => simp [intOf]; omega
                      · have m0 : (zf zs j == 0) = false := by simp [i0]
                        have m1 : (zf zs j == 1) = false := by simp [i1]
                        have HH : Hid (heldB U' E.Fa 0 (j + 1) = true ∧ heldB U' E.Fa 1 (j + 1) = heldB U' E.Fa 1 j ∧ heldB (zf zs) E.Fa 0 (j + 1) = heldB (zf zs) E.Fa 0 j ∧ heldB (zf zs) E.Fa 1 (j + 1) = heldB (zf zs) E.Fa 1 j ∧ termB U' E.Fa (j + 1) = termB U' E.Fa j) := by refine ⟨?_, ?_, ?_, ?_, ?_⟩ <;> simp [heldB, termB, hF, d0, i0, i1]
                        clear d0
                        as_aux_lemma =>
                          go_wp2
                          go_roundw
                          case rel => exact ⟨j + 1, by omega, by go_num, by rw [HH.out.1], by rw [HH.out.2.1], by rw [HH.out.2.2.1], by rw [HH.out.2.2.2.1], by rw [HH.out.2.2.2.2], trivial⟩
                          case measure => simp [intOf]; omega
                  · by_cases d1 : U' j = 1
                    · rw [d1] at y1 y2
                      by_cases i0 : zf zs j = 0
                      · rw [i0] at y3
                        have HH : Hid (heldB U' E.Fa 0 (j + 1) = heldB U' E.Fa 0 j ∧ heldB U' E.Fa 1 (j + 1) = true ∧ heldB (zf zs) E.Fa 0 (j + 1) = true ∧ heldB (zf zs) E.Fa 1 (j + 1) = heldB (zf zs) E.Fa 1 j ∧ termB U' E.Fa (j + 1) = termB U' E.Fa j) := by refine ⟨?_, ?_, ?_, ?_, ?_⟩ <;> simp [heldB, termB, hF, d1, i0]
                        clear d1 d0 i0
                        as_aux_lemma =>
                          go_wp2
                          go_roundw
                          case rel => exact ⟨j + 1, by omega, by go_num, by rw [HH.out.1], by rw [HH.out.2.1], by rw [HH.out.2.2.1], by rw [HH.out.2.2.2.1], by rw [HH.out.2.2.2.2], trivial⟩
                          case measure => simp [intOf]; omega
                      · by_cases i1 : zf zs j = 1
                        · rw [i1] at y3
                          have HH : Hid (heldB U' E.Fa 0 (j + 1) = heldB U' E.Fa 0 j ∧ heldB U' E.Fa 1 (j + 1) = true ∧ heldB (zf zs) E.Fa 0 (j + 1) = heldB (zf zs) E.Fa 0 j ∧ heldB (zf zs) E.Fa 1 (j + 1) = true ∧ termB U' E.Fa (j + 1) = termB U' E.Fa j) := by refine ⟨?_, ?_, ?_, ?_, ?_⟩ <;> simp [heldB, termB, hF, d1, i1]
                          clear d1 d0 i1 i0
                          as_aux_lemma =>
                            go_wp2
                            go_roundw
                            case rel => exact ⟨j + 1, by omega, by go_num, by rw [HH.out.1], by rw [HH.out.2.1], by rw [HH.out.2.2.1], by rw [HH.out.2.2.2.1], by rw [HH.out.2.2.2.2], trivial⟩
                            case measure => simp [intOf]; omega
                        · have m0 : (zf zs j == 0) = false := by simp [i0]
                          have m1 : (zf zs j == 1) = false := by simp [i1]
                          have HH : Hid (heldB U' E.Fa 0 (j + 1) = heldB U' E.Fa 0 j ∧ heldB U' E.Fa 1 (j + 1) = true ∧ heldB (zf zs) E.Fa 0 (j + 1) = heldB (zf zs) E.Fa 0 j ∧ heldB (zf zs) E.Fa 1 (j + 1) = heldB (zf zs) E.Fa 1 j ∧ termB U' E.Fa (j + 1) = termB U' E.Fa j) := by refine ⟨?_, ?_, ?_, ?_, ?_⟩ <;> simp [heldB, termB, hF, d1, i0, i1]
                          clear d1 d0
                          as_aux_lemma =>
                            go_wp2
                            go_roundw
                            case rel => exact ⟨j + 1, by omega, by go_num, by rw [HH.out.1], by rw [HH.out.2.1], by rw [HH.out.2.2.1], by rw [HH.out.2.2.2.1], by rw [HH.out.2.2.2.2], trivial⟩
                            case measure => simp [intOf]; omega
                    · have n0 : (U' j == 0) = false := by simp [d0]
                      have n1 : (U' j == 1) = false := by simp [d1]
                      by_cases i0 : zf zs j = 0
                      · rw [i0] at y3
                        have HH : Hid (heldB U' E.Fa 0 (j + 1) = heldB U' E.Fa 0 j ∧ heldB U' E.Fa 1 (j + 1) = heldB U' E.Fa 1 j ∧ heldB (zf zs) E.Fa 0 (j + 1) = true ∧ heldB (zf zs) E.Fa 1 (j + 1) = heldB (zf zs) E.Fa 1 j ∧ termB U' E.Fa (j + 1) = false) := by refine ⟨?_, ?_, ?_, ?_, ?_⟩ <;> simp [heldB, termB, hF, d0, d1, i0]
                        clear i0
                        as_aux_lemma =>
                          go_wp2
                          go_roundw
                          case rel => exact ⟨j + 1, by omega, by go_num, by rw [HH.out.1], by rw [HH.out.2.1], by rw [HH.out.2.2.1], by rw [HH.out.2.2.2.1], by rw [HH.out.2.2.2.2], trivial⟩
                          case measure => simp [intOf]; omega
                      · by_cases i1 : zf zs j = 1
                        · rw [i1] at y3
                          have HH : Hid (heldB U' E.Fa 0 (j + 1) = heldB U' E.Fa 0 j ∧ heldB U' E.Fa 1 (j + 1) = heldB U' E.Fa 1 j ∧ heldB (zf zs) E.Fa 0 (j + 1) = heldB (zf zs) E.Fa 0 j ∧ heldB (zf zs) E.Fa 1 (j + 1) = true ∧ termB U' E.Fa (j + 1) = false) := by refine ⟨?_, ?_, ?_, ?_, ?_⟩ <;> simp [heldB, termB, hF, d0, d1, i1]
                          clear i1 i0
                          as_aux_lemma =>
                            go_wp2
                            go_roundw
                            case rel => exact ⟨j + 1, by omega, by go_num, by rw [HH.out.1], by rw [HH.out.2.1], by rw [HH.out.2.2.1], by rw [HH.out.2.2.2.1], by rw [HH.out.2.2.2.2], trivial⟩
                            case measure => simp [intOf]; omega
                        · have m0 : (zf zs j == 0) = false := by simp [i0]
                          have m1 : (zf zs j == 1) = false := by simp [i1]
                          have HH : Hid (heldB U' E.Fa 0 (j + 1) = heldB U' E.Fa 0 j ∧ heldB U' E.Fa 1 (j + 1) = heldB U' E.Fa 1 j ∧ heldB (zf zs) E.Fa 0 (j + 1) = heldB (zf zs) E.Fa 0 j ∧ heldB (zf zs) E.Fa 1 (j + 1) = heldB (zf zs) E.Fa 1 j ∧ termB U' E.Fa (j + 1) = false) := by refine ⟨?_, ?_, ?_, ?_, ?_⟩ <;> simp [heldB, termB, hF, d0, d1, i0, i1]
                          as_aux_lemma =>
                            go_wp2
                            go_roundw
                            case rel => exact ⟨j + 1, by omega, by go_num, by rw [HH.out.1], by rw [HH.out.2.1], by rw [HH.out.2.2.1], by rw [HH.out.2.2.2.1], by rw [HH.out.2.2.2.2], trivial⟩
                            case measure => simp [intOf]; omega
                · rw [e1] at x4
                  have y5 := hcc j hlt
                  rw [hF] at y5
                  have hle' : (j : Int) < (E.fl : Int) := by omega
                  have hfl' : (E.fl : Int) ≤ 64 := by have := hE.hfl; omega
                  by_cases d0 : U' j = 0
                  · rw [d0] at y1 y2
                    by_cases i0 : zf zs j = 0
                    · rw [i0] at y3
                      have HH : Hid (heldB U' E.Fa 0 (j + 1) = true ∧ heldB U' E.Fa 1 (j + 1) = heldB U' E.Fa 1 j ∧ heldB (zf zs) E.Fa 0 (j + 1) = true ∧ heldB (zf zs) E.Fa 1 (j + 1) = heldB (zf zs) E.Fa 1 j ∧ termB U' E.Fa (j + 1) = termB U' E.Fa j) := by refine ⟨?_, ?_, ?_, ?_, ?_⟩ <;> simp [heldB, termB, hF, d0, i0]
                      clear d0 i0
                      as_aux_lemma =>
                        go_wp2
                        go_roundw
                        case rel => exact ⟨j + 1, by omega, by go_num, by rw [HH.out.1], by rw [HH.out.2.1], by rw [HH.out.2.2.1], by rw [HH.out.2.2.2.1], by rw [HH.out.2.2.2.2], trivial⟩
                        case measure => simp [intOf]; omega
                    · by_cases i1 : zf zs j = 1
                      · rw [i1] at y3
                        have HH : Hid (heldB U' E.Fa 0 (j + 1) = true ∧ heldB U' E.Fa 1 (j + 1) = heldB U' E.Fa 1 j ∧ heldB (zf zs) E.Fa 0 (j + 1) = heldB (zf zs) E.Fa 0 j ∧ heldB (zf zs) E.Fa 1 (j + 1) = true ∧ termB U' E.Fa (j + 1) = termB U' E.Fa j) := by refine ⟨?_, ?_, ?_, ?_, ?_⟩ <;> simp [heldB, termB, hF, d0, i1]
                        clear d0 i1 i0
                        as_aux_lemma =>
                          go_wp2
                          go_roundw
                          case rel => exact ⟨j + 1, by omega, by go_num, by rw [HH.out.1], by rw [HH.out.2.1], by rw [HH.out.2.2.1], by rw [HH.out.2.2.2.1], by rw [HH.out.2.2.2.2], trivial⟩
                          case measure => simp [intOf]; omega
                      · have m0 : (zf zs j == 0) = false := by simp [i0]
                        have m1 : (zf zs j == 1) = false := by simp [i1]
                        have HH : Hid (heldB U' E.Fa 0 (j + 1) = true ∧ heldB U' E.Fa 1 (j + 1) = heldB U' E.Fa 1 j ∧ heldB (zf zs) E.Fa 0 (j + 1) = heldB (zf zs) E.Fa 0 j ∧ heldB (zf zs) E.Fa 1 (j + 1) = heldB (zf zs) E.Fa 1 j ∧ termB U' E.Fa (j + 1) = termB U' E.Fa j) := by refine ⟨?_, ?_, ?_, ?_, ?_⟩ <;> simp [heldB, termB, hF, d0, i0, i1]
                        clear d0
                        as_aux_lemma =>
                          go_wp2
                          go_roundw
                          case rel => exact ⟨j + 1, by omega, by go_num, by rw [HH.out.1], by rw [HH.out.2.1], by rw [HH.out.2.2.1], by rw [HH.out.2.2.2.1], by rw [HH.out.2.2.2.2], trivial⟩
                          case measure => simp [intOf]; omega
                  · by_cases d1 : U' j = 1
                    · rw [d1] at y1 y2
                      by_cases i0 : zf zs j = 0
                      · rw [i0] at y3
                        have HH : Hid (heldB U' E.Fa 0 (j + 1) = heldB U' E.Fa 0 j ∧ heldB U' E.Fa 1 (j + 1) = true ∧ heldB (zf zs) E.Fa 0 (j + 1) = true ∧ heldB (zf zs) E.Fa 1 (j + 1) = heldB (zf zs) E.Fa 1 j ∧ termB U' E.Fa (j + 1) = termB U' E.Fa j) := by refine ⟨?_, ?_, ?_, ?_, ?_⟩ <;> simp [heldB, termB, hF, d1, i0]
                        clear d1 d0 i0
                        as_aux_lemma =>
                          go_wp2
                          go_roundw
                          case rel => exact ⟨j + 1, by omega, by go_num, by rw [HH.out.1], by rw [HH.out.2.1], by rw [HH.out.2.2.1], by rw [HH.out.2.2.2.1], by rw [HH.out.2.2.2.2], trivial⟩
                          case measure => simp [intOf]; omega
                      · by_cases i1 : zf zs j = 1
                        · rw [i1] at y3
                          have HH : Hid (heldB U' E.Fa 0 (j + 1) = heldB U' E.Fa 0 j ∧ heldB U' E.Fa 1 (j + 1) = true ∧ heldB (zf zs) E.Fa 0 (j + 1) = heldB (zf zs) E.Fa 0 j ∧ heldB (zf zs) E.Fa 1 (j + 1) = true ∧ termB U' E.Fa (j + 1) = termB U' E.Fa j) := by refine ⟨?_, ?_, ?_, ?_, ?_⟩ <;> simp [heldB, termB, hF, d1, i1]
                          clear d1 d0 i1 i0
                          as_aux_lemma =>
                            go_wp2
                            go_roundw
                            case rel => exact ⟨j + 1, by omega, by go_num, by rw [HH.out.1], by rw [HH.out.2.1], by rw [HH.out.2.2.1], by rw [HH.out.2.2.2.1], by rw [HH.out.2.2.2.2], trivial⟩
                            case measure => simp [intOf]; omega
                        · have m0 : (zf zs j == 0) = false := by simp [i0]
                          have m1 : (zf zs j == 1) = false := by simp [i1]
                          have HH : Hid (heldB U' E.Fa 0 (j + 1) = heldB U' E.Fa 0 j ∧ heldB U' E.Fa 1 (j + 1) = true ∧ heldB (zf zs) E.Fa 0 (j + 1) = heldB (zf zs) E.Fa 0 j ∧ heldB (zf zs) E.Fa 1 (j + 1) = heldB (zf zs) E.Fa 1 j ∧ termB U' E.Fa (j + 1) = termB U' E.Fa j) := by refine ⟨?_, ?_, ?_, ?_, ?_⟩ <;> simp [heldB, termB, hF, d1, i0, i1]
                          clear d1 d0
                          as_aux_lemma =>
                            go_wp2
                            go_roundw
                            case rel => exact ⟨j + 1, by omega, by go_num, by rw [HH.out.1], by rw [HH.out.2.1], by rw [HH.out.2.2.1], by rw [HH.out.2.2.2.1], by rw [HH.out.2.2.2.2], trivial⟩
                            case measure => simp [intOf]; omega
                    · have n0 : (U' j == 0) = false := by simp [d0]
                      have n1 : (U' j == 1) = false := by simp [d1]
                      by_cases i0 : zf zs j = 0
                      · rw [i0] at y3
                        have HH : Hid (heldB U' E.Fa 0 (j + 1) = heldB U' E.Fa 0 j ∧ heldB U' E.Fa 1 (j + 1) = heldB U' E.Fa 1 j ∧ heldB (zf zs) E.Fa 0 (j + 1) = true ∧ heldB (zf zs) E.Fa 1 (j + 1) = heldB (zf zs) E.Fa 1 j ∧ termB U' E.Fa (j + 1) = false) := by refine ⟨?_, ?_, ?_, ?_, ?_⟩ <;> simp [heldB, termB, hF, d0, d1, i0]
                        clear i0
                        as_aux_lemma =>
                          go_wp2
                          go_roundw
                          case rel => exact ⟨j + 1, by omega, by go_num, by rw [HH.out.1], by rw [HH.out.2.1], by rw [HH.out.2.2.1], by rw [HH.out.2.2.2.1], by rw [HH.out.2.2.2.2], trivial⟩
                          case measure => simp [intOf]; omega
                      · by_cases i1 : zf zs j = 1
                        · rw [i1] at y3
                          have HH : Hid (heldB U' E.Fa 0 (j + 1) = heldB U' E.Fa 0 j ∧ heldB U' E.Fa 1 (j + 1) = heldB U' E.Fa 1 j ∧ heldB (zf zs) E.Fa 0 (j + 1) = heldB (zf zs) E.Fa 0 j ∧ heldB (zf zs) E.Fa 1 (j + 1) = true ∧ termB U' E.Fa (j + 1) = false) := by refine ⟨?_, ?_, ?_, ?_, ?_⟩ <;> simp [heldB, termB, hF, d0, d1, i1]
                          clear i1 i0
                          as_aux_lemma =>
                            go_wp2
                            go_roundw
                            case rel => exact ⟨j + 1, by omega, by go_num, by rw [HH.out.1], by rw [HH.out.2.1], by rw [HH.out.2.2.1], by rw [HH.out.2.2.2.1], by rw [HH.out.2.2.2.2], trivial⟩
                            case measure => simp [intOf]; omega
                        · have m0 : (zf zs j == 0) = false := by simp [i0]
                          have m1 : (zf zs j == 1) = false := by simp [i1]
                          have HH : Hid (heldB U' E.Fa 0 (j + 1) = heldB U' E.Fa 0 j ∧ heldB U' E.Fa 1 (j + 1) = heldB U' E.Fa 1 j ∧ heldB (zf zs) E.Fa 0 (j + 1) = heldB (zf zs) E.Fa 0 j ∧ heldB (zf zs) E.Fa 1 (j + 1) = heldB (zf zs) E.Fa 1 j ∧ termB U' E.Fa (j + 1) = false) := by refine ⟨?_, ?_, ?_, ?_, ?_⟩ <;> simp [heldB, termB, hF, d0, d1, i0, i1]
                          as_aux_lemma =>
                            go_wp2
                            go_roundw
                            case rel => exact ⟨j + 1, by omega, by go_num, by rw [HH.out.1], by rw [HH.out.2.1], by rw [HH.out.2.2.1], by rw [HH.out.2.2.2.1], by rw [HH.out.2.2.2.2], trivial⟩
                            case measure => simp [intOf]; omega
              · rw [decs_marked hlt hF] at y2
                have HH : Hid (heldB U' E.Fa 0 (j + 1) = heldB U' E.Fa 0 j ∧ heldB U' E.Fa 1 (j + 1) = heldB U' E.Fa 1 j ∧ heldB (zf zs) E.Fa 0 (j + 1) = heldB (zf zs) E.Fa 0 j ∧ heldB (zf zs) E.Fa 1 (j + 1) = heldB (zf zs) E.Fa 1 j ∧ termB U' E.Fa (j + 1) = termB U' E.Fa j) := by refine ⟨?_, ?_, ?_, ?_, ?_⟩ <;> simp [heldB, termB, hF]
                rcases M8 with ⟨e1, e2, e3, e4⟩ | ⟨bb, oo, e1, hle, hll, hcc⟩
                · rw [e4 j] at hF
                  cases hF
                · rw [e1] at x4
                  have y5 := hcc j hlt
                  rw [hF] at y5
                  have hle' : (j : Int) < (E.fl : Int) := by omega
                  have hfl' : (E.fl : Int) ≤ 64 := by have := hE.hfl; omega
                  as_aux_lemma =>
                    go_wp2
                    go_roundw
                    case rel => exact ⟨j + 1, by omega, by go_num, by rw [HH.out.1], by rw [HH.out.2.1], by rw [HH.out.2.2.1], by rw [HH.out.2.2.2.1], by rw [HH.out.2.2.2.2], trivial⟩
                    case measure => simp [intOf]; omega
            · obtain rfl : j = E.n := by omega
              have ha := HA.out
              have hv := HV.out
              have ht := HT.out
              rw [heldB_congr (g := U') (fun i hi h => (hUT i hi h).symm), heldB_congr (f := T) (g := U') (fun i hi h => (hUT i hi h).symm)] at ha hv
              rw [termB_congr (g := U') (fun i hi h => (hUT i hi h).symm)] at ht
              subst ha; subst hv; subst ht
              clear HA HV HT hUT M8 D8 I8 rc' x4 x5 p0
              generalize heldB U' E.Fa 0 E.n = g0 at *
              generalize heldB U' E.Fa 1 E.n = g1 at *
              generalize heldB (zf zs) E.Fa 0 E.n = g2 at *
              generalize heldB (zf zs) E.Fa 1 E.n = g3 at *
              generalize termB U' E.Fa E.n = g4 at *
              cases g0 <;> cases g1 <;> cases g2 <;> cases g3 <;> cases g4 <;>
              · as_aux_lemma =>
                  go_wp2
                  go_ret
                  exact ⟨rfl, lo8⟩

set_option maxRecDepth 100000 in
theorem iter_out (a fa : Option Addr) (n cap fl fc : Nat) (s : Int) (w : World) (hn : ¬ n ≤ 64) :
    Calls Yba.prog 4 #[.slice a n cap, .slice fa fl fc, .int .u8 s] w fun e w' => e = .returned (.bool true) ∧ Below w.heap.size w w' := by
  have hn' : (64 : Int) < n := by omega
  go_enter Yba.func4, Yba.ntmps4
  go_wp2
  go_ret
  exact ⟨rfl, Below.refl _ _⟩

theorem iter_walk (a fa : Option Addr) (n cap fl fc : Nat) (zs : List Int) (bs : Nat → Bool) (s : Int) (w : World) (hs0 : 0 ≤ s) (hs1 : s < 256) (hr : IsRow .i64 w a n cap zs) (hf : Bools w fa fl fc bs) :
    Calls Yba.prog 4 #[.slice a n cap, .slice fa fl fc, .int .u8 s] w fun e w' => e = .returned (.bool true) ∧ Below w.heap.size w w' := by
  by_cases hn : n ≤ 64
  · exact iter_in a fa n cap fl fc zs bs s w hn hs0 hs1 hr hf
  · exact iter_out a fa n cap fl fc s w hn
end Go.Proofs.Ybulkyva
