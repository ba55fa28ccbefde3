import Derived.Test.YbulkyvaNext
import Derived.Deep.Cut
import Derived.Deep.RegionHeld3
namespace Go.Proofs.Ybulkyva
open Go.RowKit
set_option linter.unusedVariables false

theorem nextset_any (pa : Option Addr) (m pc gp b k n f c : Nat) (L F : Nat → Int) (w : World) (hk : k ≤ 1024) (hn : n ≤ 1024) (hf : f ≤ 1024) (hF : Follows n f c m L k F) (hp : c ≠ 0 → Sl w pa m gp L) (hr : IRow w b k F) :
    Calls Yba.prog 13 #[.slice pa m pc, .slice (some ⟨b, 0, none⟩) k k, .int .i64 n, .int .i64 f, .bool ((c : Int) == 0)] w fun e w' => e = .returned (.bool true) ∧ Below w.heap.size w w' := by
  by_cases hc : c = 0
  · have : ((c : Int) == 0) = true := by simp [hc]
    rw [this]
    exact nextset_first _ k k _ n f n f w (by have := hF.first hc; omega)
  · have : ((c : Int) == 0) = false := by simp [hc]
    rw [this]
    exact nextset_rest pa m pc gp b k k n f c L F w hk hn hf hc hF (hp hc) hr

theorem contains_irow (g k ck : Nat) (F : Nat → Int) (x : Int) (W : World) (hk : k ≤ 1024) (h : IRow W g k F) :
    Calls Yba.prog 14 #[.slice (some ⟨g, 0, none⟩) k ck, .int .i64 x] W fun e w' => e = .returned (.bool (contB F x k)) ∧ w' = W :=
  (contains_of _ k F x W (index_some g 0 k ck F x W hk (fun i hi => by rw [Nat.zero_add]; exact h.cell hi))).mono (fun e w' h => ⟨h.1, h.2.symm⟩)

theorem end_same {E : Env} {B : Nat} {W : World} (hE : E.Ok B) (hnn : 0 < E.n) (v : Nat) (a b z : Value) (q : Nat) {i : Nat} (hi : E.bprev < i) : ((((W.setCell ⟨E.blast, 0, none⟩ a).setCell ⟨E.bcalls, 0, none⟩ b).setCell ⟨E.gx, v, none⟩ z).drewN q).heap[i]? = W.heap[i]? := by
  have o4 := hE.o4; have o5 := hE.o5; have o6 := hE.o6; have o7 := hE.o7; have o8 := hE.o8; have o9 := hE.o9; have o10 := hE.o10
  have ox := hE.ox hnn
  exact (Below.heap_setCell _ _ _ _ (by (try dsimp only); omega)).trans ((Below.heap_setCell _ _ _ _ (by (try dsimp only); omega)).trans (Below.heap_setCell _ _ _ _ (by (try dsimp only); omega)))

/-- The first steps of an iteration's first call. -/
theorem CS.reset {E : Env} {B : Nat} {seen calls seen' : Nat} {lv : Int} {pv pv' : Value} {U T : Nat → Int} {W W3 : World} (h : CS E seen calls lv pv U T W) (hE : E.Ok B) (hnn : 0 < E.n) (zs : Int) (hzs : zs = (seen' : Int))
    (hb : Below (((W.setCell ⟨E.bseen, 0, none⟩ (.int .i64 zs)).setCell ⟨E.bcalls, 0, none⟩ (.int .i64 0)).setCell ⟨E.blast, 0, none⟩ (.int .i64 (-1))).heap.size (((W.setCell ⟨E.bseen, 0, none⟩ (.int .i64 zs)).setCell ⟨E.bcalls, 0, none⟩ (.int .i64 0)).setCell ⟨E.blast, 0, none⟩ (.int .i64 (-1))) W3) :
    CS E seen' 0 (-1) pv' U T (W3.setCell ⟨E.bprev, 0, none⟩ pv') ∧ Chg B (CX E) W (W3.setCell ⟨E.bprev, 0, none⟩ pv') := by
  have o0 := hE.o0; have o1 := hE.o1; have o2 := hE.o2; have o3 := hE.o3; have o4 := hE.o4; have o5 := hE.o5; have o6 := hE.o6; have o7 := hE.o7; have o8 := hE.o8; have o9 := hE.o9; have o10 := hE.o10
  have oc := hE.oc hnn; have ox := hE.ox hnn
  have hz : (((W.setCell ⟨E.bseen, 0, none⟩ (.int .i64 zs)).setCell ⟨E.bcalls, 0, none⟩ (.int .i64 0)).setCell ⟨E.blast, 0, none⟩ (.int .i64 (-1))).heap.size = W.heap.size := by simp
  rw [hz] at hb
  have st : ∀ b, b < W.heap.size → b ≠ E.bseen → b ≠ E.bcalls → b ≠ E.blast → b ≠ E.bprev → (W3.setCell ⟨E.bprev, 0, none⟩ pv').heap[b]? = W.heap[b]? := fun b hl h1 h2 h3 h4 =>
    (Below.heap_setCell _ _ _ _ h4).trans ((hb.block b hl).trans ((Below.heap_setCell _ _ _ _ h3).trans ((Below.heap_setCell _ _ _ _ h2).trans (Below.heap_setCell _ _ _ _ h1))))
  have hch : Chg B (CX E) W (W3.setCell ⟨E.bprev, 0, none⟩ pv') := by
    have c1 : Chg B (CX E) W (((W.setCell ⟨E.bseen, 0, none⟩ (.int .i64 zs)).setCell ⟨E.bcalls, 0, none⟩ (.int .i64 0)).setCell ⟨E.blast, 0, none⟩ (.int .i64 (-1))) :=
      (((Chg.refl B (CX E) W).setCell (p := ⟨E.bseen, 0, none⟩) (by (try dsimp only); omega) (.inl ⟨by (try dsimp only); omega, by (try dsimp only); omega⟩) _).setCell (p := ⟨E.bcalls, 0, none⟩) (by (try dsimp only); omega) (.inl ⟨by (try dsimp only); omega, by (try dsimp only); omega⟩) _).setCell (p := ⟨E.blast, 0, none⟩) (by (try dsimp only); omega) (.inl ⟨by (try dsimp only); omega, by (try dsimp only); omega⟩) _
    have c2 : Chg B (CX E) (((W.setCell ⟨E.bseen, 0, none⟩ (.int .i64 zs)).setCell ⟨E.bcalls, 0, none⟩ (.int .i64 0)).setCell ⟨E.blast, 0, none⟩ (.int .i64 (-1))) W3 := ⟨hb.mono (by have := blk_lt h.n; omega), fun b hl _ => hb.block b (by rw [hz] at hl; exact hl)⟩
    exact (c1.trans c2).setCell (p := ⟨E.bprev, 0, none⟩) (by (try dsimp only); omega) (.inl ⟨by (try dsimp only); omega, by (try dsimp only); omega⟩) _
  have ls := blk_lt h.sn
  subst hzs
  have lc := blk_lt h.cl
  have ll := blk_lt h.la
  have lp := blk_lt h.pv
  refine ⟨⟨(st _ (blk_lt h.n) (by omega) (by omega) (by omega) (by omega)).trans h.n, (st _ (blk_lt h.f) (by omega) (by omega) (by omega) (by omega)).trans h.f, (st _ (blk_lt h.fl) (by omega) (by omega) (by omega) (by omega)).trans h.fl, (st _ (blk_lt h.nf) (by omega) (by omega) (by omega) (by omega)).trans h.nf,
    (st _ (blk_lt h.cur) (by omega) (by omega) (by omega) (by omega)).trans h.cur, (st _ (blk_lt h.nxt) (by omega) (by omega) (by omega) (by omega)).trans h.nxt, (st _ (blk_lt h.ok) (by omega) (by omega) (by omega) (by omega)).trans h.ok,
    ?_, ?_, ?_, ?_, h.rc.of_block (fun hp => st _ (h.rc.lt hp) (by omega) (by omega) (by omega) (by omega)), h.rx.of_block (fun hp => st _ (h.rx.lt hp) (by omega) (by omega) (by omega) (by omega)), ?_⟩, hch⟩
  · refine (Below.heap_setCell _ _ _ _ (by (try dsimp only); omega)).trans ((hb.block _ ls).trans ((Below.heap_setCell _ _ _ _ (by (try dsimp only); omega)).trans ((Below.heap_setCell _ _ _ _ (by (try dsimp only); omega)).trans ?_)))
    have := blk_set (i := 0) (v := .int .i64 (seen' : Int)) h.sn
    simpa using this
  · refine (Below.heap_setCell _ _ _ _ (by (try dsimp only); omega)).trans ((hb.block _ lc).trans ((Below.heap_setCell _ _ _ _ (by (try dsimp only); omega)).trans ?_))
    have := blk_set (i := 0) (v := .int .i64 0) ((Below.heap_setCell W ⟨E.bseen, 0, none⟩ (.int .i64 (seen' : Int)) E.bcalls (by (try dsimp only); omega)).trans h.cl)
    simpa using this
  · refine (Below.heap_setCell _ _ _ _ (by (try dsimp only); omega)).trans ((hb.block _ ll).trans ?_)
    have := blk_set (i := 0) (v := .int .i64 (-1)) ((Below.heap_setCell _ ⟨E.bcalls, 0, none⟩ (.int .i64 0) E.blast (by (try dsimp only); omega)).trans ((Below.heap_setCell W ⟨E.bseen, 0, none⟩ (.int .i64 (seen' : Int)) E.blast (by (try dsimp only); omega)).trans h.la))
    simpa using this
  · have := blk_set (i := 0) (v := pv') ((hb.block _ lp).trans ((Below.heap_setCell _ _ _ _ (by (try dsimp only); omega)).trans ((Below.heap_setCell _ _ _ _ (by (try dsimp only); omega)).trans ((Below.heap_setCell _ _ _ _ (by (try dsimp only); omega)).trans h.pv))))
    simpa using this
  · exact h.mks.chg hch (fun b o e hx => by have := hE.ofa b o e; have := hx.1; omega)

/-- The states go over into cur. -/
theorem CS.copied {E : Env} {B : Nat} {seen calls : Nat} {lv : Int} {pv : Value} {U T : Nat → Int} {W W1 : World} (h : CS E seen calls lv pv U T W) (hE : E.Ok B) (hnn : 0 < E.n) (hr : IRow W1 E.gc E.n T) (hch : Chg 0 (fun b => b = E.gc) W W1) : CS E seen calls lv pv T T W1 := by
  have o1 := hE.o1; have o2 := hE.o2; have o3 := hE.o3; have o4 := hE.o4; have o5 := hE.o5; have o6 := hE.o6; have o7 := hE.o7; have o8 := hE.o8; have o9 := hE.o9; have o10 := hE.o10
  have oc := hE.oc hnn; have ox := hE.ox hnn
  have st : ∀ b, b < W.heap.size → b ≠ E.gc → W1.heap[b]? = W.heap[b]? := fun b hl hb => hch.same b hl hb
  obtain ⟨eca, _⟩ := h.rc.row hnn
  exact ⟨(st _ (blk_lt h.n) (by omega)).trans h.n, (st _ (blk_lt h.f) (by omega)).trans h.f, (st _ (blk_lt h.fl) (by omega)).trans h.fl, (st _ (blk_lt h.nf) (by omega)).trans h.nf, (st _ (blk_lt h.cur) (by omega)).trans h.cur, (st _ (blk_lt h.nxt) (by omega)).trans h.nxt,
    (st _ (blk_lt h.ok) (by omega)).trans h.ok, (st _ (blk_lt h.sn) (by omega)).trans h.sn, (st _ (blk_lt h.cl) (by omega)).trans h.cl, (st _ (blk_lt h.la) (by omega)).trans h.la, (st _ (blk_lt h.pv) (by omega)).trans h.pv, .inr ⟨eca, hr⟩,
    h.rx.of_block (fun hp => st _ (h.rx.lt hp) (by omega)), h.mks.chg hch (fun b o e hx => by have := hE.ofa b o e; (try dsimp only at hx); omega)⟩

set_option maxHeartbeats 4000000 in
set_option maxRecDepth 100000 in
/-- THE FIRST CALL OF AN ITERATION. -/
theorem next_first (E : Env) (B c calls br g gs k gF v sc : Nat) (lv : Int) (pa : Option Addr) (pm pc gp : Nat) (L F T U : Nat → Int) (w : World) (hE : E.Ok B) (hnn : 0 < E.n) (hgF : E.bprev < gF) (hg : E.bprev < g) (hgs : E.bprev < gs) (hbr : E.bprev < br) (hgp : c ≠ 0 → 0 < pm → E.bprev < gp)
    (h : CS E c calls lv (.slice pa pm pc) U T w) (hp : c ≠ 0 → Sl w pa pm gp L) (hcl : c ≠ 0 → calls = E.nf) (hU : c = 0 → ∀ i, i < E.n → U i = T i) (hF : IRow w g k F) (hFo : Follows E.n E.f c pm L k F) (hk : k ≤ 1024) (hc : c ≤ 100000) (hv : v < E.n) (hFa : E.Fa v = false)
    (hst : w.cell? ⟨br, 3, none⟩ = some (.slice (some ⟨gs, 0, none⟩) E.n sc)) (hs : IRow w gs E.n T)
    (hin : w.rowIs gF 4 E.n (fun i => .bool (contB F i k))) :
    Calls Yba.prog 12 (#[.pointer (some ⟨br, 0, none⟩), .int .i64 c, .slice (some ⟨g, 0, none⟩) k k, .slice (some ⟨gF, 0, none⟩) E.n E.n, .int .i64 v] ++ caps E) w fun e w' =>
      ∃ z : Int, e = .returned (.int .i64 z) ∧ (∃ pa' gp' pc', CS E (c + 1) 1 v (.slice pa' k pc') T (upd T v z) w' ∧ Sl w' pa' k gp' F ∧ w.heap.size ≤ gp') ∧ Chg B (CX E) w w' := by
  have o1 := hE.o1; have o2 := hE.o2; have o3 := hE.o3; have o4 := hE.o4; have o5 := hE.o5; have o6 := hE.o6; have o7 := hE.o7; have o8 := hE.o8; have o9 := hE.o9; have o10 := hE.o10
  have oc := hE.oc hnn; have ox := hE.ox hnn; have oB := hE.o0
  have s1 := cells_at (i := 0) (v := .int .i64 (c : Int)) h.sn rfl
  have : ¬ E.bcalls = E.blast := by omega
  have : ¬ E.blast = E.bcalls := by omega
  have nsl : ¬ E.bseen = E.blast := by omega
  have nsc : ¬ E.bseen = E.bcalls := by omega
  have ncs : ¬ E.bcalls = E.bseen := by omega
  have nls : ¬ E.blast = E.bseen := by omega
  have npl : ¬ E.bprev = E.blast := by omega
  have npc : ¬ E.bprev = E.bcalls := by omega
  have nps : ¬ E.bprev = E.bseen := by omega
  clear o1 o2 o3 o4 o5 o6 o7 o8 o9 o10 oc ox oB
  go_enter Yba.func12, Yba.ntmps12
  go_upto_if 29 with fail
  go_cut [] from 25 (fun wq => CS E c calls lv (.slice pa pm pc) T T wq ∧ Chg B (fun b => b = E.gc) w wq)
  case first =>
    by_cases hc0 : c = 0
    · go_wp2
      go_meet
      case rel => exact ⟨⟨h.n, h.f, h.fl, h.nf, h.cur, h.nxt, h.ok, h.sn, h.cl, h.la, h.pv, h.rc.congr (hU hc0), h.rx, h.mks⟩, Chg.refl _ _ _⟩
    · have hcc := hcl hc0
      obtain ⟨eca, rc⟩ := h.rc.row hnn
      obtain ⟨exa, rx⟩ := h.rx.row hnn
      have q1 := cells_at (i := 0) (v := .int .i64 (E.nf : Nat)) (hcc ▸ h.cl) rfl
      have q2 := cells_at (i := 0) (v := .int .i64 (E.nf : Nat)) h.nf rfl
      have q3 := cells_at (i := 0) (v := .slice (some ⟨E.gc, 0, none⟩) E.n E.cc) (eca ▸ h.cur) rfl
      have q4 := cells_at (i := 0) (v := .slice (some ⟨E.gx, 0, none⟩) E.n E.cx) (exa ▸ h.nxt) rfl
      have hcp : (c : Int) > 0 := by omega
      clear hcc
      go_wp2_with (with_reducible (show wpList _ _ _ ({ dst := _, op := Op.call { callee := Callee.builtin Builtin.copy, args := _, argTypes := _ }, type := _, pos := _, after := _, guard := _ } :: _) _ _); refine wpList_copy_rows rfl (.tmp 33) (.tmp 34) rfl E.gc E.gx E.n E.cc E.cx U T rfl rfl rc rx ?_; intro w1 rc1 hch1)
      go_meet
      case rel => exact ⟨h.copied hE hnn rc1 (hch1 0 (Nat.zero_le _)), hch1 B (by have := hE.oc hnn; have := hE.o0; have := hE.o1; have := hE.o2; have := hE.o3; omega)⟩
  case rest =>
    obtain ⟨H1, hC1⟩ := hcut
    have gcl : E.gc < E.bcur := (hE.oc hnn).2
    have gcp : E.gc < E.bprev := by have := hE.o5; have := hE.o6; have := hE.o7; have := hE.o8; have := hE.o9; have := hE.o10; omega
    have F1 : IRow wc g k F := hF.of_block (hC1.same g hF.lt (by (try dsimp only); omega))
    have S1 : IRow wc gs E.n T := hs.of_block (hC1.same gs hs.lt (by (try dsimp only); omega))
    have I1 := hin.of_block (hC1.same gF hin.lt (by (try dsimp only); omega))
    have R1 : wc.cell? ⟨br, 3, none⟩ = some (.slice (some ⟨gs, 0, none⟩) E.n sc) := (World.cell?_of_block (w := w) (hC1.same br (World.block_lt_of_cell? w _ hst) (by (try dsimp only); omega))).trans hst
    have P1 : c ≠ 0 → Sl wc pa pm gp L := fun h0 => (hp h0).of_block (fun h1 => hC1.same gp ((hp h0).lt h1) (by have := hgp h0 h1; (try dsimp only); omega))
    have hbpw := blk_lt h.pv
    clear hst hs hin hF hp s1 h hU hcl
    have c1 := cells_at (i := 0) (v := .slice pa pm pc) H1.pv rfl
    have c2 := cells_at (i := 0) (v := .int .i64 E.n) H1.n rfl
    have c3 := cells_at (i := 0) (v := .int .i64 E.f) H1.f rfl
    have c4 := cells_at (i := 0) (v := .int .i64 c) H1.sn rfl
    go_wp2_with fail
    refine (nextset_any pa pm pc gp g k E.n E.f c L F _ hk (by have := hE.hn; omega) (by have := hE.hf; omega) hFo P1 F1).mono ?_
    rintro e w2 ⟨rfl, hb2⟩
    clear c1 c2 c3 c4
    have H2 := H1.below hE hb2
    have d1 := cells_at (i := 0) (v := .int .i64 c) H2.sn rfl
    have d2 := cells_at (i := 0) (v := .int .i64 calls) H2.cl rfl
    have d3 := cells_at (i := 0) (v := .int .i64 lv) H2.la rfl
    have d4 := frozen_at H2.sn 0
    have d5 := frozen_at H2.cl 0
    have d6 := frozen_at H2.la 0
    go_wp2_with fail
    clear d1 d2 d3 d4 d5 d6
    have lbg : E.bseen < E.bprev ∧ E.bcalls < E.bprev ∧ E.blast < E.bprev := by have := hE.o8; have := hE.o9; have := hE.o10; omega
    have F3 := (((F1.below hb2).other (a := ⟨E.bseen, 0, none⟩) (by (try dsimp only); omega) (.int .i64 ((c : Int) + 1))).other (a := ⟨E.bcalls, 0, none⟩) (by (try dsimp only); omega) (.int .i64 0)).other (a := ⟨E.blast, 0, none⟩) (by (try dsimp only); omega) (.int .i64 (-1))
    refine (clone_sl _ k k g F _ hk (.inr ⟨rfl, F3⟩)).mono ?_
    rintro e w3 ⟨pa', gp', pc', rfl, hb3, hg3, hr3⟩
    have Hres := H2.reset (pv' := .slice pa' k pc') (seen' := c + 1) hE hnn ((c : Int) + 1) (by simp) hb3
    have pl := blk_lt H2.pv
    have hz3 : w2.heap.size ≤ w3.heap.size := by have := hb3.size; simpa using this
    have PV3 : w3.heap[E.bprev]? = some (.cells #[.slice pa pm pc] 30) := (hb3.block _ (by simpa using pl)).trans ((Below.heap_setCell _ _ _ _ (by (try dsimp only); omega)).trans ((Below.heap_setCell _ _ _ _ (by (try dsimp only); omega)).trans ((Below.heap_setCell _ _ _ _ (by (try dsimp only); omega)).trans H2.pv)))
    have c1 := cells_at (i := 0) (v := .slice pa pm pc) PV3 rfl
    have c2 := frozen_at PV3 0
    go_upto_region 12 with fail
    clear c1 c2
    obtain ⟨W4, hW4⟩ : ∃ W4, w3.setCell ⟨E.bprev, 0, none⟩ (.slice pa' k pc') = W4 := ⟨_, rfl⟩
    have R4 : Sl W4 pa' k gp' F := by rw [← hW4]; exact hr3.of_block (fun hkp => Below.heap_setCell _ _ _ _ (by (try dsimp only); simp at hg3; omega))
    have hgp4 : w.heap.size ≤ gp' := by have := hb2.size; have := hC1.size; simp at hg3; omega
    rw [hW4] at Hres ⊢
    clear hW4 hr3 hb3 F3 PV3 hg3
    obtain ⟨H4, hC4⟩ := Hres
    have hC04 : Chg B (CX E) w W4 := by
      have a1 : Chg B (CX E) w wc := hC1.mono (fun b hb => by subst hb; exact ⟨(hE.oc hnn).1, by omega⟩)
      exact (a1.trans (Chg.of_below hb2 (by have := blk_lt H1.n; have := hE.o0; omega))).trans hC4
    have out : ∀ b, E.bprev < b → ¬ CX E b := fun b hb hx => by have := hx.2; omega
    have F4 : IRow W4 g k F := (F1.below hb2).of_block (hC4.same g (F1.below hb2).lt (out g hg))
    have S4 : IRow W4 gs E.n T := (S1.below hb2).of_block (hC4.same gs (S1.below hb2).lt (out gs hgs))
    have I2 := I1.of_block (hb2.block _ I1.lt)
    have I4 := I2.of_block (hC4.same gF I2.lt (out gF hgF))
    have R2 := (hb2.cell (p := ⟨br, 3, none⟩) (World.block_lt_of_cell? wc _ R1)).trans R1
    have Q4 : W4.cell? ⟨br, 3, none⟩ = some (.slice (some ⟨gs, 0, none⟩) E.n sc) := (World.cell?_of_block (w := w2) (hC4.same br (World.block_lt_of_cell? w2 _ R2) (out br hbr))).trans R2
    clear hC1 hC4 hb2 H1 H2 F1 S1 I1 I2 R1 R2 P1 hz3 pl out
    obtain ⟨eca4, rc4⟩ := H4.rc.row hnn
    have v4 := cells_at (i := 0) (v := .slice (some ⟨E.gc, 0, none⟩) E.n E.cc) (eca4 ▸ H4.cur) rfl
    have hn4 : E.n ≤ 1024 := by have := hE.hn; omega
    have K4 : Hid (Calls Yba.prog 10 #[.slice (some ⟨gs, 0, none⟩) E.n sc, .slice (some ⟨E.gc, 0, none⟩) E.n E.cc] W4.drew fun e w' => e = .returned (.bool true) ∧ Below W4.heap.size W4 w') := (equal_rows gs E.gc E.n sc E.cc T W4.drew hn4 S4 rc4).mono (fun e w' h => ⟨h.1, Below.of_drew h.2⟩)
    go_cut [54] from 25 (fun s54 wq => s54 = .bool false ∧ Below W4.heap.size W4 wq)
    case first =>
      go_region_held3 (fun w' => w'.cell? ⟨br, 3, none⟩ = some (.slice (some ⟨gs, 0, none⟩) E.n sc) ∧ w'.cell? ⟨E.bcur, 0, none⟩ = some (.slice (some ⟨E.gc, 0, none⟩) E.n E.cc)) (go_keep)
        (first
          | (go_at_call 10; with_reducible (refine (K4.out).mono ?_); rintro e w5 ⟨rfl, hb5⟩; have x1 := (hb5.cell (p := ⟨br, 3, none⟩) (World.block_lt_of_cell? W4 _ Q4)).trans Q4; have x2 := (hb5.cell (p := ⟨E.bcur, 0, none⟩) (blk_lt H4.cur)).trans v4)
          | fail)
      go_wp2
      go_meet
      case rel => exact ⟨rfl, hb5⟩
    case rest =>
      obtain ⟨rfl, hb5⟩ := hcut
      have H5 := H4.below hE hb5
      have F5 := F4.below hb5
      have I5 := I4.of_block (hb5.block _ I4.lt)
      have R5 := R4.below hb5
      have hC5 : Chg B (CX E) w wc := hC04.trans (Chg.of_below hb5 (by have := blk_lt H4.n; have := hE.o0; omega))
      have y1 := cells_at (i := 0) (v := .int .i64 E.n) H5.n rfl
      clear K4 S4 Q4 v4 rc4 hb5 H4 F4 I4 R4 hC04
      go_wp2
      go_loopw [22] (fun i wr => ∃ j : Nat, j ≤ E.n ∧ i = .int .i64 j ∧ Below wc.heap.size wc wr) (fun i _ => E.n - (intOf i).toNat)
      case atStart => exact ⟨0, Nat.zero_le _, rfl, Below.refl _ _⟩
      case round =>
        obtain ⟨j, hj, rfl, hb⟩ := hrel
        have H6 := H5.below hE hb
        have y2 := cells_at (i := 0) (v := .int .i64 E.n) H6.n rfl
        have I6 := I5.of_block (hb.block _ I5.lt)
        by_cases hlt : j < E.n
        · have y3 := I6.cell hlt
          have F6 := F5.below hb
          have HC : Hid (∀ (q : Nat), Calls Yba.prog 14 #[.slice (some ⟨g, 0, none⟩) k k, .int .i64 j] (wr.drewN q) fun e w' => e = .returned (.bool (contB F j k)) ∧ w' = wr.drewN q) := fun q => contains_irow g k k F j (wr.drewN q) hk F6
          have hjn : (j : Int) < (E.n : Int) := by omega
          go_wp2
          go_quiet ((go_at_call 14; exact Calls.quiet_of_same (HC.out _)))
          go_wp2
          go_roundw
          case rel => exact ⟨j + 1, by omega, by go_num, below_drewN hb _⟩
          case measure => simp [intOf]; omega
        · obtain rfl : j = E.n := by omega
          have H2 := H6
          have hin2 := I6
          have hC2 : Chg B (CX E) w wr := hC5.trans (Chg.of_below hb (by have := blk_lt H5.n; have := hE.o0; omega))
          have R6 := R5.below hb
          clear H6 I6 H5 I5 hC5 R5 F5 y1
          obtain ⟨eca, rc2⟩ := H2.rc.row hnn
          obtain ⟨exa, rx2⟩ := H2.rx.row hnn
          have t1 := cells_at (i := 0) (v := .int .i64 (-1)) H2.la rfl
          have t2 := cells_at (i := 0) (v := .int .i64 E.n) H2.n rfl
          have t3 := cells_at (i := 0) (v := .slice E.fa E.fl E.fc) H2.fl rfl
          have t4 := cells_at (i := 0) (v := .int .i64 (0 : Nat)) H2.cl rfl
          have t5 := cells_at (i := 0) (v := .slice (some ⟨E.gc, 0, none⟩) E.n E.cc) (eca ▸ H2.cur) rfl
          have t6 := cells_at (i := 0) (v := .slice (some ⟨E.gx, 0, none⟩) E.n E.cx) (exa ▸ H2.nxt) rfl
          have t7 := hin2.cell hv
          have t8 := rx2.cell hv
          have t9 := rx2.frozen v
          have u1 := frozen_at H2.la 0
          have u2 := frozen_at H2.cl 0
          have hmod : ((v : Int) + 1).tmod (E.n : Int) = (((v + 1) % E.n : Nat) : Int) := by rw [show ((v : Int) + 1) = ((v + 1 : Nat) : Int) by simp]; rfl
          have hml : (v + 1) % E.n < E.n := Nat.mod_lt _ hnn
          have t10 := rc2.cell hml
          obtain ⟨vm, hvm⟩ : ∃ vm, (v + 1) % E.n = vm := ⟨_, rfl⟩
          rw [hvm] at hmod hml t10
          clear hvm
          have hvn : (v : Int) < (E.n : Int) := by omega
          have hn64 : (E.n : Int) ≤ 64 := by have := hE.hn; omega
          have hnl := fun (w : World) (a : Option Addr) (n c : Nat) => run_neq_slice_nil_any (P := Yba.prog) w 44 4 a n c 0 0 Yba.underlying44
          have ob := (fun b => contB F v k = b)
          clear ob
          have d1 : decide ((v : Int) ≤ (-1)) = false := decide_eq_false (by omega)
          have d2 : decide ((v : Int) < 0) = false := decide_eq_false (by omega)
          have d3 : decide (E.n ≤ v) = false := decide_eq_false (by omega)
          have HM := H2.mks
          obtain ⟨bb, hbb⟩ : ∃ bb, contB F v k = bb := ⟨_, rfl⟩
          rw [hbb] at t7
          have HFa : Hid (E.Fa v = false) := hFa
          go_upto_region 26 with fail
          go_cut [107] from 25 (fun s107 wq => s107 = .bool false ∧ wq = wr)
          case first =>
            rcases HM with ⟨e1, e2, e3, _⟩ | ⟨b, o, e1, hle, hlt, hcc⟩
            · rw [e1] at t3
              go_wp2
              go_meet
              case rel => exact ⟨rfl, rfl⟩
            · rw [e1] at t3
              have t11 := hcc v hv
              rw [HFa.out] at t11
              have hle' : (v : Int) < (E.fl : Int) := by omega
              have hfl' : (E.fl : Int) ≤ 64 := by have := hE.hfl; omega
              go_wp2
              go_meet
              case rel => exact ⟨rfl, rfl⟩
          case rest =>
            obtain ⟨rfl, rfl⟩ := hcut
            go_upto_region 31 with fail
            have st : ∀ b, b ≠ E.blast → b ≠ E.bcalls → ((wc.setCell ⟨E.blast, 0, none⟩ (.int .i64 v)).setCell ⟨E.bcalls, 0, none⟩ (.int .i64 1)).heap[b]? = wc.heap[b]? := fun b h1 h2 => (Below.heap_setCell _ _ _ _ h2).trans (Below.heap_setCell _ _ _ _ h1)
            obtain ⟨W3, hW3⟩ : ∃ W3, ((wc.setCell ⟨E.blast, 0, none⟩ (.int .i64 v)).setCell ⟨E.bcalls, 0, none⟩ (.int .i64 1)) = W3 := ⟨_, rfl⟩
            have HW3 : Hid (((wc.setCell ⟨E.blast, 0, none⟩ (.int .i64 v)).setCell ⟨E.bcalls, 0, none⟩ (.int .i64 1)) = W3) := hW3
            rw [hW3] at st ⊢
            clear hW3
            have o1 := hE.o1; have o2 := hE.o2; have o3 := hE.o3; have o4 := hE.o4; have o5 := hE.o5; have o6 := hE.o6; have o7 := hE.o7; have o8 := hE.o8; have o9 := hE.o9; have o10 := hE.o10
            have oc := hE.oc hnn; have ox := hE.ox hnn; have oB := hE.o0
            have p2 := cells_at (i := 0) (v := .int .i64 E.n) ((st _ (by omega) (by omega)).trans H2.n) rfl
            have p5 := cells_at (i := 0) (v := .slice (some ⟨E.gc, 0, none⟩) E.n E.cc) ((st _ (by omega) (by omega)).trans (eca ▸ H2.cur)) rfl
            have p6 := cells_at (i := 0) (v := .slice (some ⟨E.gx, 0, none⟩) E.n E.cx) ((st _ (by omega) (by omega)).trans (exa ▸ H2.nxt)) rfl
            have p7 := (hin2.of_block (st gF (by omega) (by omega))).cell hv
            rw [hbb] at p7
            have p8 := (rx2.of_block (st _ (by omega) (by omega))).cell hv
            have p9 := (rx2.of_block (st _ (by omega) (by omega))).frozen v
            have p10 := (rc2.of_block (st _ (by omega) (by omega))).cell hml
            clear o1 o2 o3 o4 o5 o6 o7 o8 o9 o10 oc ox oB t1 t2 t3 t4 t5 t6 t7 t8 t9 t10 u1 u2 HM hnl st rc2 rx2
            cases bb
            · go_wp2
              go_quiet (fail)
              go_wp2
              go_ret
              have hW3 := HW3.out
              subst hW3
              exact ⟨_, rfl, ⟨pa', gp', pc', H2.last hE hnn v _ _, R6.of_block (fun _ => end_same hE hnn v _ _ _ nq (by omega)), hgp4⟩, last_chg hE hnn hC2 v _ _ _ nq⟩
            · go_wp2
              go_quiet (fail)
              go_wp2
              go_ret
              have hW3 := HW3.out
              subst hW3
              exact ⟨_, rfl, ⟨pa', gp', pc', H2.last hE hnn v _ _, R6.of_block (fun _ => end_same hE hnn v _ _ _ nq (by omega)), hgp4⟩, last_chg hE hnn hC2 v _ _ _ nq⟩
end Go.Proofs.Ybulkyva
