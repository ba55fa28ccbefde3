import Derived.Test.YbulkyqsClone
import Derived.Test.YbulkyqsPlain
import Derived.Deep.LoopGhost
namespace Go.Proofs.Ybulkyqs
open Go.RowKit
set_option linter.unusedVariables false

theorem Yba.info33 : (Yba.prog.info? 33).map (fun i => (i.zero, i.size, i.bytes)) = some (some (.agg #[.int .i64 0, .int .u64 0, .int .u64 0]), 3, 24) := by kernel_rfl
theorem Yba.cells33 : Yba.prog.cellsOf 33 = 3 := by kernel_rfl

/-- The cells of the probe under way. -/
def pf (a' : Nat) (A M : Nat) : Nat → Value
  | 0 => .int .i64 a'
  | 1 => .int .u64 A
  | _ => .int .u64 M

theorem pf_new (w : World) (k : Nat) : (w.alloc (.cells #[.int .i64 (k : Int), .int .u64 0, .int .u64 0] 33)).rowIs w.heap.size 33 3 (pf k 0 0) :=
  World.rowIs_alloc w #[.int .i64 (k : Int), .int .u64 0, .int .u64 0] 33 (pf k 0 0) (fun i hi => by
    match i, hi with
    | 0, _ => rfl
    | 1, _ => rfl
    | 2, _ => rfl)

theorem pf_set (w : World) (B k A M : Nat) (h : w.rowIs B 33 3 (pf k A M)) (A' M' : Nat) (x y : Int) (hx : x = (A' : Int)) (hy : y = (M' : Int)) :
    ((w.setCell ⟨B, 1, none⟩ (.int .u64 x)).setCell ⟨B, 2, none⟩ (.int .u64 y)).rowIs B 33 3 (pf k A' M') := by
  subst hx hy
  refine ((h.set 1 _).set 2 _).congr (fun i hi => ?_)
  match i, hi with
  | 0, _ => rfl
  | 1, _ => rfl
  | 2, _ => rfl

theorem owns_of_below {w w' : World} {base e size n : Nat} {v : Value} {xs : List Value} (h : w.ownsRow base e size v n xs) (hb : Below w.heap.size w w') : w'.ownsRow base e size v n xs :=
  h.kept (row := none) ⟨hb.os, hb.tape, hb.output, hb.size, fun k hk _ => hb.block k hk⟩ (by cases v.ownBlock <;> simp)

theorem three_new (w : World) (a b c : Value) : ∀ j u, [a, b, c][j]? = some u → (w.alloc (.cells #[a, b, c] 33)).cell? ((⟨w.heap.size, 0, none⟩ : Addr).add j) = some u := by
  intro j u hu
  rw [Addr.add_lit, Nat.zero_add, World.cell?_alloc_at _ _ _ _ rfl]
  match j, hu with
  | 0, hu => simpa using hu
  | 1, hu => simpa using hu
  | 2, hu => simpa using hu
theorem three_one (k A M : Int) : ∀ u ∈ [Value.int .i64 k, .int .u64 A, .int .u64 M], u.oneCell' = true := by
  intro u hu
  simp at hu
  rcases hu with rfl | rfl | rfl <;> rfl
theorem own_snoc {w : World} {B n k j : Nat} {v : Value} {ps : List Nat} {fb fm : Nat → Int} (hj : Hid (j = wid n k))
    (h : w.ownsRow B 33 3 v (ps.length + 1) (pcells fb fm n ps ++ [.int .i64 (k : Int), .int .u64 (acc (gB fb fm k) j : Nat), .int .u64 (acc (gM fm k) j : Nat)])) :
    w.ownsRow B 33 3 v (ps ++ [k]).length (pcells fb fm n (ps ++ [k])) := by
  have := hj.out
  subst this
  rw [pcells_snoc, List.length_append]
  exact h

set_option maxHeartbeats 4000000 in
set_option maxRecDepth 100000 in
theorem probes_calls (gb gm n : Nat) (fb fm : Nat → Int) (w : World) (hn : n ≤ 1024) (hb : w.rowIs gb 5 n (fun j => .int .u8 (fb j))) (hm : w.rowIs gm 5 n (fun j => .int .u8 (fm j)))
    (rb : ∀ j, j < n → 0 ≤ fb j ∧ fb j < 256) (rm : ∀ j, j < n → 0 ≤ fm j ∧ fm j < 256) :
    Calls Yba.prog 15 #[.slice (some ⟨gb, 0, none⟩) n n, .slice (some ⟨gm, 0, none⟩) n n] w fun e w' =>
      ∃ v ps i, e = .returned v ∧ n ≤ i ∧ Starts fm n ps i ∧ w'.ownsRow w.heap.size 33 3 v ps.length (pcells fb fm n ps) ∧ ps.length ≤ 1031 ∧ Below w.heap.size w w' := by
  obtain ⟨i0, hi, hz0, hz1, hz2⟩ := info_parts Yba.info33
  have hgb := hb.lt
  have hgm := hm.lt
  go_enter Yba.func15, Yba.ntmps15
  go_wp2
  go_loopw [5, 6] (fun v i wr => ∃ (k : Nat) (ps : List Nat), k ≤ n + 7 ∧ i = .int .i64 k ∧ Starts fm n ps k ∧ wr.ownsRow w.heap.size 33 3 v ps.length (pcells fb fm n ps) ∧ Below w.heap.size w wr) (fun _ i _ => n - (intOf i).toNat)
  case atStart => exact ⟨0, [], Nat.zero_le _, rfl, Starts.nil _ _, World.ownsRow_nil _ _ _ _, Below.refl _ _⟩
  case round =>
    obtain ⟨k, ps, hk, rfl, hst, hown, hnx⟩ := hrel
    by_cases hlt : k < n
    · have cm : wr.cell? ⟨gm, k, none⟩ = some (.int .u8 (fm k)) := (hnx.cell (p := ⟨gm, k, none⟩) hgm).trans (hm.cell hlt)
      by_cases hz : fm k = 0
      · have hz' : (fm k == 0) = true := by simp [hz]
        have HZ : Hid (fm k = 0) := hz
        clear hz
        go_wp2
        go_roundw
        case rel => exact ⟨k + 1, ps, by omega, by go_num, hst.skip HZ.out, hown, hnx⟩
        case measure => simp [intOf]; omega
      · have hz' : (fm k == 0) = false := by simp [hz]
        have HZ : Hid (¬ fm k = 0) := hz
        clear hz
        obtain ⟨m, hmw⟩ : ∃ m : Nat, m = wid n k := ⟨_, rfl⟩
        have hm8 : m ≤ 8 := by rw [hmw]; unfold wid; omega
        have hmn : k + m ≤ n := by rw [hmw]; unfold wid; omega
        have hcut : 8 ≤ m ∨ (m < 8 ∧ n ≤ k + m) := by rw [hmw]; unfold wid; omega
        have HMW : Hid (m = wid n k) := hmw
        clear hmw
        have hsz := hnx.size
        have hgb1 : gb < wr.heap.size := by omega
        have hgm1 : gm < wr.heap.size := by omega
        have nb : ¬ gb = wr.heap.size := by omega
        have nm : ¬ gm = wr.heap.size := by omega
        rcases hcut with hcut | hcut
        all_goals
          first
            | have h8 : (8 : Int) ≤ (n : Int) - (k : Int) := by omega
            | have h8 : (n : Int) - (k : Int) < 8 := by omega
          go_wp2
          obtain ⟨wo, hwo⟩ : ∃ wo : World, wo = wr := ⟨_, rfl⟩
          rw [← hwo]
          rw [← hwo] at hown hnx hsz hgb1 hgm1 nb nm
          clear hwo cm
          go_loopw [27] (fun j wi => ∃ (j' : Nat), j' ≤ m ∧ j = .int .i64 j' ∧ wi.rowIs wo.heap.size 33 3 (pf k (acc (gB fb fm k) j') (acc (gM fm k) j')) ∧ Below wo.heap.size wo wi) (fun j _ => m - (intOf j).toNat)
          case atStart => exact ⟨0, Nat.zero_le _, rfl, pf_new _ _, below_one _ _⟩
          case round =>
            obtain ⟨j, hj, rfl, hr, hbx⟩ := hrel
            by_cases hjm : j < m
            · have cm : wr.cell? ⟨gm, k + j, none⟩ = some (.int .u8 (fm (k + j))) := ((hbx.cell (p := ⟨gm, k + j, none⟩) hgm1).trans (hnx.cell (p := ⟨gm, k + j, none⟩) hgm)).trans (hm.cell (by omega))
              have cb : wr.cell? ⟨gb, k + j, none⟩ = some (.int .u8 (fb (k + j))) := ((hbx.cell (p := ⟨gb, k + j, none⟩) hgb1).trans (hnx.cell (p := ⟨gb, k + j, none⟩) hgb)).trans (hb.cell (by omega))
              have c1 : wr.cell? ⟨wo.heap.size, 1, none⟩ = some (.int .u64 (acc (gB fb fm k) j : Nat)) := hr.cell (by omega)
              have c2 : wr.cell? ⟨wo.heap.size, 2, none⟩ = some (.int .u64 (acc (gM fm k) j : Nat)) := hr.cell (by omega)
              have f1 := hr.frozen 1
              have f2 := hr.frozen 2
              have hkj : (k : Int) + (j : Int) < (n : Int) := by omega
              go_wp2
              go_region
              go_wp2
              go_region
              go_wp2
              go_roundw
              case rel =>
                refine ⟨j + 1, by omega, by go_num, ?_, (((hbx.setCell (p := ⟨wo.heap.size, 1, none⟩) (Nat.le_refl _) _).drew).setCell (p := ⟨wo.heap.size, 2, none⟩) (Nat.le_refl _) _).drew⟩
                exact pf_set _ _ _ _ _ hr _ _ _ _ (acc_or _ (gB_lt fb fm k) j (by omega) _ (gB_eq _ _ _ _ (rm _ (by omega)) (rb _ (by omega)))) (acc_or _ (gM_lt fm k) j (by omega) _ (gM_eq _ _ _ (rm _ (by omega))))
              case measure => simp [intOf]; omega
            · obtain rfl : j = m := by omega
              have c0 : wr.cell? ⟨wo.heap.size, 0, none⟩ = some (.int .i64 (k : Nat)) := hr.cell (by omega)
              have c1 : wr.cell? ⟨wo.heap.size, 1, none⟩ = some (.int .u64 (acc (gB fb fm k) j : Nat)) := hr.cell (by omega)
              have c2 : wr.cell? ⟨wo.heap.size, 2, none⟩ = some (.int .u64 (acc (gM fm k) j : Nat)) := hr.cell (by omega)
              have hown1 := owns_of_below hown hbx
              have hfew := hst.few
              have hbs := hbx.size
              go_wp2_with (at_builtin; refine wpList_append_own _ rfl (.tmp 66) (.tmp 68) 26 rfl w.heap.size 33 i0 (.agg #[.int .i64 0, .int .u64 0, .int .u64 0]) 3 24 Yba.underlying26 hi hz0 hz1 hz2 rfl (by decide) _ _ _ rfl (hown1.alloc _) ⟨wr.heap.size, 0, none⟩ 1 1 [.int .i64 (k : Int), .int .u64 (acc (gB fb fm k) j : Nat), .int .u64 (acc (gM fm k) j : Nat)] rfl rfl (three_new _ _ _ _) (three_one _ _ _) (by unfold maxLen; omega) (by omega) (by simp; omega) ?_)
              intro v' w1 hown' hgrow _
              clear c0 c1 c2
              go_wp2
              go_roundw
              case rel => exact ⟨k + 8, ps ++ [k], by omega, by go_num, hst.push hlt HZ.out, own_snoc HMW hown', (((hnx.trans (hbx.mono hsz)).alloc (by omega) _).grown hgrow (by simp; omega) (fun x hx => (hown1.lt x hx).1))⟩
              case measure => simp [intOf]; omega
    · go_wp2
      go_ret
      exact ⟨_, ps, k, rfl, by omega, hst, hown, by have := hst.few; omega, hnx⟩

/-- The same, the value's shape written out. -/
theorem probes_shape (gb gm n : Nat) (fb fm : Nat → Int) (w : World) (hn : n ≤ 1024) (hb : w.rowIs gb 5 n (fun j => .int .u8 (fb j))) (hm : w.rowIs gm 5 n (fun j => .int .u8 (fm j)))
    (rb : ∀ j, j < n → 0 ≤ fb j ∧ fb j < 256) (rm : ∀ j, j < n → 0 ≤ fm j ∧ fm j < 256) :
    Calls Yba.prog 15 #[.slice (some ⟨gb, 0, none⟩) n n, .slice (some ⟨gm, 0, none⟩) n n] w fun e w' =>
      ∃ (ao : Option Addr) (np cp : Nat) (ps : List Nat) (i : Nat), e = .returned (.slice ao np cp) ∧ np = ps.length ∧ n ≤ i ∧ Starts fm n ps i ∧ w'.ownsRow w.heap.size 33 3 (.slice ao np cp) ps.length (pcells fb fm n ps) ∧ ps.length ≤ 1031 ∧ Below w.heap.size w w' := by
  refine (probes_calls gb gm n fb fm w hn hb hm rb rm).mono ?_
  rintro e w' ⟨v, ps, i, rfl, h1, h2, ho, h3, h4⟩
  have ho' := ho
  rcases ho.2 with ⟨rfl, h⟩ | ⟨g', cap', cur, rfl, hg, _⟩
  · exact ⟨none, 0, 0, ps, i, rfl, h.symm, h1, h2, ho', h3, h4⟩
  · exact ⟨some ⟨g', 0, none⟩, ps.length, cap', ps, i, rfl, rfl, h1, h2, ho', h3, h4⟩
end Go.Proofs.Ybulkyqs
