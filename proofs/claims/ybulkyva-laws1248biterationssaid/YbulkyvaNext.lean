import Derived.Test.YbulkyvaState
import Derived.Deep.Cut
import Derived.Deep.Cut
namespace Go.Proofs.Ybulkyva
open Go.RowKit
set_option linter.unusedVariables false

/-- One number of a row is another. -/
def upd (T : Nat → Int) (v : Nat) (z : Int) (i : Nat) : Int := if i = v then z else T i

/-- The captured boxes, as the closure is handed them. -/
abbrev caps (E : Env) : Array Value := #[.pointer (some ⟨E.bseen, 0, none⟩), .pointer (some ⟨E.bcalls, 0, none⟩), .pointer (some ⟨E.bnf, 0, none⟩), .pointer (some ⟨E.bok, 0, none⟩), .pointer (some ⟨E.bcur, 0, none⟩), .pointer (some ⟨E.bnxt, 0, none⟩), .pointer (some ⟨E.bprev, 0, none⟩), .pointer (some ⟨E.bn, 0, none⟩), .pointer (some ⟨E.bf, 0, none⟩), .pointer (some ⟨E.blast, 0, none⟩), .pointer (some ⟨E.bfl, 0, none⟩)]

/-- The last steps of a call. -/
theorem CS.last {E : Env} {B : Nat} {seen calls : Nat} {lv : Int} {pv : Value} {U T : Nat → Int} {W : World} (h : CS E seen calls lv pv U T W) (hE : E.Ok B) (hnn : 0 < E.n) (v : Nat) (z : Int) (q : Nat) :
    CS E seen (calls + 1) v pv U (upd T v z) ((((W.setCell ⟨E.blast, 0, none⟩ (.int .i64 v)).setCell ⟨E.bcalls, 0, none⟩ (.int .i64 ((calls : Int) + 1))).setCell ⟨E.gx, v, none⟩ (.int .i64 z)).drewN q) := by
  have o1 := hE.o1; have o2 := hE.o2; have o3 := hE.o3; have o4 := hE.o4; have o5 := hE.o5; have o6 := hE.o6; have o7 := hE.o7; have o8 := hE.o8; have o9 := hE.o9; have o10 := hE.o10
  have oc := hE.oc hnn; have ox := hE.ox hnn
  have st : ∀ b, b ≠ E.blast → b ≠ E.bcalls → b ≠ E.gx → (((W.setCell ⟨E.blast, 0, none⟩ (.int .i64 v)).setCell ⟨E.bcalls, 0, none⟩ (.int .i64 ((calls : Int) + 1))).setCell ⟨E.gx, v, none⟩ (.int .i64 z)).heap[b]? = W.heap[b]? := fun b h1 h2 h3 =>
    (Below.heap_setCell _ _ _ _ h3).trans ((Below.heap_setCell _ _ _ _ h2).trans (Below.heap_setCell _ _ _ _ h1))
  obtain ⟨ex, rx⟩ := h.rx.row hnn
  refine CS.drewN ?_ q
  refine ⟨(st _ (by omega) (by omega) (by omega)).trans h.n, (st _ (by omega) (by omega) (by omega)).trans h.f, (st _ (by omega) (by omega) (by omega)).trans h.fl, (st _ (by omega) (by omega) (by omega)).trans h.nf,
    (st _ (by omega) (by omega) (by omega)).trans h.cur, (st _ (by omega) (by omega) (by omega)).trans h.nxt, (st _ (by omega) (by omega) (by omega)).trans h.ok, (st _ (by omega) (by omega) (by omega)).trans h.sn,
    ?_, ?_, (st _ (by omega) (by omega) (by omega)).trans h.pv, h.rc.of_block (fun _ => st _ (by omega) (by omega) (by omega)), ?_, ?_⟩
  · refine (Below.heap_setCell _ _ _ _ (by (try dsimp only); omega)).trans ?_
    have := blk_set (i := 0) (v := .int .i64 ((calls : Int) + 1)) ((Below.heap_setCell W ⟨E.blast, 0, none⟩ (.int .i64 v) E.bcalls (by (try dsimp only); omega)).trans h.cl)
    simpa using this
  · refine (Below.heap_setCell _ _ _ _ (by (try dsimp only); omega)).trans ((Below.heap_setCell _ _ _ _ (by (try dsimp only); omega)).trans ?_)
    have := blk_set (i := 0) (v := .int .i64 v) h.la
    simpa using this
  · exact .inr ⟨ex, ((rx.other (by (try dsimp only); omega) _).other (by (try dsimp only); omega) _).set v z⟩
  · refine h.mks.chg (B := 0) (X := fun b => b = E.blast ∨ b = E.bcalls ∨ b = E.gx) ⟨⟨rfl, rfl, rfl, by simp, fun k hk => by omega⟩, fun b _ hb => st b (fun e => hb (.inl e)) (fun e => hb (.inr (.inl e))) (fun e => hb (.inr (.inr e)))⟩ (fun b o e => ?_)
    have := hE.ofa b o e
    rintro (rfl | rfl | rfl) <;> omega

theorem last_chg {E : Env} {B : Nat} {w W : World} (hE : E.Ok B) (hnn : 0 < E.n) (h : Chg B (CX E) w W) (v : Nat) (a b z : Value) (q : Nat) : Chg B (CX E) w ((((W.setCell ⟨E.blast, 0, none⟩ a).setCell ⟨E.bcalls, 0, none⟩ b).setCell ⟨E.gx, v, none⟩ z).drewN q) := by
  have o0 := hE.o0; have o1 := hE.o1; have o2 := hE.o2; have o3 := hE.o3; have o4 := hE.o4; have o5 := hE.o5; have o6 := hE.o6; have o7 := hE.o7; have o8 := hE.o8; have o9 := hE.o9; have o10 := hE.o10
  have ox := hE.ox hnn
  exact (((h.setCell (p := ⟨E.blast, 0, none⟩) (by (try dsimp only); omega) (.inl ⟨by (try dsimp only); omega, by (try dsimp only); omega⟩) _).setCell (p := ⟨E.bcalls, 0, none⟩) (by (try dsimp only); omega) (.inl ⟨by (try dsimp only); omega, by (try dsimp only); omega⟩) _).setCell (p := ⟨E.gx, v, none⟩) (by (try dsimp only); omega) (.inl ⟨by (try dsimp only); omega, by (try dsimp only); omega⟩) _).drewN _

set_option maxHeartbeats 4000000 in
set_option maxRecDepth 100000 in
/-- A LATER CALL IN AN ITERATION. -/
theorem next_rest (E : Env) (B c calls br g k gF v : Nat) (lv : Int) (pa : Option Addr) (pc gp : Nat) (F T Y : Nat → Int) (w : World) (hE : E.Ok B) (hnn : 0 < E.n) (hgF : E.bprev < gF)
    (h : CS E (c + 1) calls lv (.slice pa k pc) T Y w) (hp : Sl w pa k gp F) (hF : IRow w g k F) (hk : k ≤ 1024) (hc : c ≤ 100000) (hcl : calls ≤ 100000) (hv : v < E.n) (hlv : lv < v) (hFa : E.Fa v = false)
    (hin : w.rowIs gF 4 E.n (fun i => .bool (contB F i k))) :
    Calls Yba.prog 12 (#[.pointer (some ⟨br, 0, none⟩), .int .i64 c, .slice (some ⟨g, 0, none⟩) k k, .slice (some ⟨gF, 0, none⟩) E.n E.n, .int .i64 v] ++ caps E) w fun e w' =>
      ∃ z : Int, e = .returned (.int .i64 z) ∧ CS E (c + 1) (calls + 1) v (.slice pa k pc) T (upd Y v z) w' ∧ Chg B (CX E) w w' := by
  have o1 := hE.o1; have o2 := hE.o2; have o3 := hE.o3; have o4 := hE.o4; have o5 := hE.o5; have o6 := hE.o6; have o7 := hE.o7; have o8 := hE.o8; have o9 := hE.o9; have o10 := hE.o10
  have oc := hE.oc hnn; have ox := hE.ox hnn; have oB := hE.o0
  have s1 := cells_at (i := 0) (v := .int .i64 ((c + 1 : Nat) : Int)) h.sn rfl
  have s2 := cells_at (i := 0) (v := .slice pa k pc) h.pv rfl
  have : ¬ E.bcalls = E.blast := by omega
  have : ¬ E.blast = E.bcalls := by omega
  clear o1 o2 o3 o4 o5 o6 o7 o8 o9 o10 oc ox oB
  go_enter Yba.func12, Yba.ntmps12
  go_upto_region 24 with fail
  go_wp2_with fail
  refine (equal_calls _ pa k g gp k pc F _ hk (.inr ⟨rfl, hF⟩) hp).mono ?_
  rintro e w2 ⟨rfl, hb2⟩
  have H2 := h.below hE hb2
  have hin2 := hin.of_block (hb2.block _ hin.lt)
  have hC2 : Chg B (CX E) w w2 := Chg.of_below hb2 (by have := blk_lt h.n; have := hE.o0; omega)
  obtain ⟨eca, rc2⟩ := H2.rc.row hnn
  obtain ⟨exa, rx2⟩ := H2.rx.row hnn
  have t1 := cells_at (i := 0) (v := .int .i64 lv) H2.la rfl
  have t2 := cells_at (i := 0) (v := .int .i64 E.n) H2.n rfl
  have t3 := cells_at (i := 0) (v := .slice E.fa E.fl E.fc) H2.fl rfl
  have t4 := cells_at (i := 0) (v := .int .i64 (calls : Nat)) H2.cl rfl
  have t5 := cells_at (i := 0) (v := .slice (some ⟨E.gc, 0, none⟩) E.n E.cc) (eca ▸ H2.cur) rfl
  have t6 := cells_at (i := 0) (v := .slice (some ⟨E.gx, 0, none⟩) E.n E.cx) (exa ▸ H2.nxt) rfl
  have t7 := hin2.cell hv
  have t8 := rx2.cell hv
  have t9 := rx2.frozen v
  have u1 := frozen_at H2.la 0
  have u2 := frozen_at H2.cl 0
  have hmod : ((v : Int) + 1).tmod (E.n : Int) = (((v + 1) % E.n : Nat) : Int) := by rw [show ((v : Int) + 1) = ((v + 1 : Nat) : Int) by simp]; rfl
  have hml : (v + 1) % E.n < E.n := Nat.mod_lt _ hnn
  have t10 := rc2.cell hml
  obtain ⟨vm, hvm⟩ : ∃ vm, (v + 1) % E.n = vm := ⟨_, rfl⟩
  rw [hvm] at hmod hml t10
  clear hvm
  have hvn : (v : Int) < (E.n : Int) := by omega
  have hn64 : (E.n : Int) ≤ 64 := by have := hE.hn; omega
  have hnl := fun (w : World) (a : Option Addr) (n c : Nat) => run_neq_slice_nil_any (P := Yba.prog) w 44 4 a n c 0 0 Yba.underlying44
  have ob := (fun b => contB F v k = b)
  clear ob
  have d1 : decide ((v : Int) ≤ lv) = false := decide_eq_false (by omega)
  have d2 : decide ((v : Int) < 0) = false := decide_eq_false (by omega)
  have d3 : decide (E.n ≤ v) = false := decide_eq_false (by omega)
  have HM := H2.mks
  obtain ⟨bb, hbb⟩ : ∃ bb, contB F v k = bb := ⟨_, rfl⟩
  rw [hbb] at t7
  have HFa : Hid (E.Fa v = false) := hFa
  go_upto_region 26 with fail
  go_cut [107] from 25 (fun s107 wq => s107 = .bool false ∧ wq = w2)
  case first =>
    rcases HM with ⟨e1, e2, e3, _⟩ | ⟨b, o, e1, hle, hlt, hcc⟩
    · rw [e1] at t3
      go_wp2
      go_meet
      case rel => exact ⟨rfl, rfl⟩
    · rw [e1] at t3
      have t11 := hcc v hv
      rw [HFa.out] at t11
      have hle' : (v : Int) < (E.fl : Int) := by omega
      have hfl' : (E.fl : Int) ≤ 64 := by have := hE.hfl; omega
      go_wp2
      go_meet
      case rel => exact ⟨rfl, rfl⟩
  case rest =>
    obtain ⟨rfl, rfl⟩ := hcut
    go_upto_region 31 with fail
    have st : ∀ b, b ≠ E.blast → b ≠ E.bcalls → ((wc.setCell ⟨E.blast, 0, none⟩ (.int .i64 v)).setCell ⟨E.bcalls, 0, none⟩ (.int .i64 ((calls : Int) + 1))).heap[b]? = wc.heap[b]? := fun b h1 h2 => (Below.heap_setCell _ _ _ _ h2).trans (Below.heap_setCell _ _ _ _ h1)
    obtain ⟨W3, hW3⟩ : ∃ W3, ((wc.setCell ⟨E.blast, 0, none⟩ (.int .i64 v)).setCell ⟨E.bcalls, 0, none⟩ (.int .i64 ((calls : Int) + 1))) = W3 := ⟨_, rfl⟩
    have HW3 : Hid (((wc.setCell ⟨E.blast, 0, none⟩ (.int .i64 v)).setCell ⟨E.bcalls, 0, none⟩ (.int .i64 ((calls : Int) + 1))) = W3) := hW3
    rw [hW3] at st ⊢
    clear hW3
    have o1 := hE.o1; have o2 := hE.o2; have o3 := hE.o3; have o4 := hE.o4; have o5 := hE.o5; have o6 := hE.o6; have o7 := hE.o7; have o8 := hE.o8; have o9 := hE.o9; have o10 := hE.o10
    have oc := hE.oc hnn; have ox := hE.ox hnn; have oB := hE.o0
    have p2 := cells_at (i := 0) (v := .int .i64 E.n) ((st _ (by omega) (by omega)).trans H2.n) rfl
    have p5 := cells_at (i := 0) (v := .slice (some ⟨E.gc, 0, none⟩) E.n E.cc) ((st _ (by omega) (by omega)).trans (eca ▸ H2.cur)) rfl
    have p6 := cells_at (i := 0) (v := .slice (some ⟨E.gx, 0, none⟩) E.n E.cx) ((st _ (by omega) (by omega)).trans (exa ▸ H2.nxt)) rfl
    have p7 := (hin2.of_block (st gF (by omega) (by omega))).cell hv
    rw [hbb] at p7
    have p8 := (rx2.of_block (st _ (by omega) (by omega))).cell hv
    have p9 := (rx2.of_block (st _ (by omega) (by omega))).frozen v
    have p10 := (rc2.of_block (st _ (by omega) (by omega))).cell hml
    clear o1 o2 o3 o4 o5 o6 o7 o8 o9 o10 oc ox oB t1 t2 t3 t4 t5 t6 t7 t8 t9 t10 u1 u2 HM hnl st rc2 rx2
    cases bb
    · go_wp2
      go_quiet (fail)
      go_wp2
      go_ret
      have hW3 := HW3.out
      subst hW3
      exact ⟨_, rfl, H2.last hE hnn v _ _, last_chg hE hnn hC2 v _ _ _ nq⟩
    · go_wp2
      go_quiet (fail)
      go_wp2
      go_ret
      have hW3 := HW3.out
      subst hW3
      exact ⟨_, rfl, H2.last hE hnn v _ _, last_chg hE hnn hC2 v _ _ _ nq⟩
end Go.Proofs.Ybulkyva
