import Derived.Test.YbulkyvaFirst
import Derived.Test.YbulkyvaClear
import Derived.Test.YbulkyvaRange
namespace Go.Proofs.Ybulkyva
open Go.RowKit
set_option linter.unusedVariables false

/-- What runIterations lays ahead of its loop. -/
structure REnv where
  ia : Option Addr
  ic : Nat
  gi : Nat
  fi : Nat → Int
  bs : Nat
  bnext : Nat
  bres : Nat
  br : Nat
  binv : Nat
  gv : Nat
  binF : Nat
  gF : Nat
  blab : Nat
  z : Int

/-- Its own blocks. -/
def ROwn (R : REnv) (b : Nat) : Prop := b = R.bs ∨ b = R.bnext ∨ b = R.bres ∨ b = R.br ∨ b = R.binv ∨ b = R.gv ∨ b = R.binF ∨ b = R.gF ∨ b = R.blab

/-- How they lie. -/
structure REnv.Ok (R : REnv) (E : Env) : Prop where
  p1 : E.bprev < R.bs
  p2 : R.bs < R.bnext
  p3 : R.bnext < R.bres
  p4 : R.bres < R.br
  p5 : R.br < R.gv
  p6 : R.gv < R.binv
  p7 : R.binv < R.gF
  p8 : R.gF < R.binF
  p9 : R.binF < R.blab
  pi : 0 < E.n → R.gi ≤ E.bnf ∧ R.gi ≠ E.bn ∧ R.gi ≠ E.bf ∧ R.gi ≠ E.bfl

/-- THE RUN's STATE at label c, its states in the slice sa. -/
structure RS (R : REnv) (E : Env) (c : Nat) (sa : Option Addr) (sc : Nat) (W : World) : Prop where
  s : W.heap[R.bs]? = some (.cells #[.slice R.ia E.n R.ic, .slice E.fa E.fl E.fc, .nilIface] 51)
  nx : W.heap[R.bnext]? = some (.cells #[.func (.func 12) #[] (caps E)] 59)
  re : W.heap[R.bres]? = some Z61
  r : W.heap[R.br]? = some (.cells (rcells (.slice R.ia E.n R.ic) (.slice E.fa E.fl E.fc) .nilIface (.slice sa E.n sc)) 57)
  inv : W.heap[R.binv]? = some (.cells #[.pointer (some ⟨R.gv, 0, none⟩)] 73)
  gv : ∃ b1 b2 : Bool, W.heap[R.gv]? = some (.cells #[.slice R.ia E.n R.ic, .slice E.fa E.fl E.fc, .nilIface, .int .i64 R.z, .bool b1, .bool b2] 88)
  bF : W.heap[R.binF]? = some (.cells #[.slice (some ⟨R.gF, 0, none⟩) E.n E.n] 44)
  rF : ∃ G : Nat → Value, W.rowIs R.gF 4 E.n G
  la : W.heap[R.blab]? = some (.cells #[.int .i64 c] 3)
  ri : Sl W R.ia E.n R.gi R.fi

theorem RS.chg {R : REnv} {E : Env} {B : Nat} {X : Nat → Prop} {c : Nat} {sa : Option Addr} {sc : Nat} {W W' : World} (h : RS R E c sa sc W) (hc : Chg B X W W') (hX : ∀ b, ROwn R b → ¬ X b) (hi : 0 < E.n → ¬ X R.gi) : RS R E c sa sc W' := by
  obtain ⟨b1, b2, hg⟩ := h.gv
  obtain ⟨G, hG⟩ := h.rF
  exact ⟨(hc.same _ (blk_lt h.s) (hX _ (by simp [ROwn]))).trans h.s, (hc.same _ (blk_lt h.nx) (hX _ (by simp [ROwn]))).trans h.nx, (hc.same _ (blk_lt h.re) (hX _ (by simp [ROwn]))).trans h.re, (hc.same _ (blk_lt h.r) (hX _ (by simp [ROwn]))).trans h.r,
    (hc.same _ (blk_lt h.inv) (hX _ (by simp [ROwn]))).trans h.inv, ⟨b1, b2, (hc.same _ (blk_lt hg) (hX _ (by simp [ROwn]))).trans hg⟩, (hc.same _ (blk_lt h.bF) (hX _ (by simp [ROwn]))).trans h.bF, ⟨G, hG.of_block (hc.same _ hG.lt (hX _ (by simp [ROwn])))⟩,
    (hc.same _ (blk_lt h.la) (hX _ (by simp [ROwn]))).trans h.la, h.ri.of_block (fun hp => hc.same _ (h.ri.lt hp) (hi hp))⟩

/-- A row that lies beside all: of a state, of a set. -/
def Free (R : REnv) (E : Env) (b : Nat) : Prop := E.bprev < b ∧ ¬ ROwn R b

/-- The place of a set among the candidates, roughly. -/
def rkv (k : Nat) (F : Nat → Int) : Int := if k = 0 then 0 else if k = 1 then 1 + F 0 else 65 + 64 * F 0 + F 1
/-- c sets have come, the last being L: so c is no greater than its place. -/
def Few (c m : Nat) (L : Nat → Int) : Prop := c = 0 ∨ (m ≤ 2 ∧ (c : Int) ≤ rkv m L + 1 ∧ ∀ i, i < m → 0 ≤ L i ∧ L i < 64)
theorem Few.le {c m : Nat} {L : Nat → Int} (h : Few c m L) : c ≤ 100000 := by
  rcases h with rfl | ⟨h1, h2, h3⟩
  · omega
  · unfold rkv at h2
    by_cases e0 : m = 0
    · rw [if_pos e0] at h2; omega
    · by_cases e1 : m = 1
      · rw [if_neg e0, if_pos e1] at h2; have := h3 0 (by omega); omega
      · rw [if_neg e0, if_neg e1] at h2; have := h3 0 (by omega); have := h3 1 (by omega); omega
theorem Few.next {n f c m k : Nat} {L F : Nat → Int} (hF : Follows n f c m L k F) (hn : n ≤ 64) (hf : f ≤ 2) (h : Few c m L) : Few (c + 1) k F := by
  have hk := hF.few
  have hb : ∀ i, i < k → 0 ≤ F i ∧ F i < 64 := fun i hi => ⟨hF.low i hi, by have := hF.high i hi; omega⟩
  refine .inr ⟨by omega, ?_, hb⟩
  rcases h with rfl | ⟨h1, h2, h3⟩
  · have := hF.first rfl
    subst this
    simp [rkv]
  · by_cases hc : c = 0
    · have := hF.first hc
      subst this; subst hc
      simp [rkv]
    · have hnx := hF.next hc
      have a : ((c + 1 : Nat) : Int) = (c : Int) + 1 := by simp
      rw [a]
      unfold rkv at h2 ⊢
      rcases hnx with hlt | ⟨rfl, j, hj, he, hg⟩
      · by_cases k1 : k = 1
        · have := hb 0 (by omega)
          have m0 : m = 0 := by omega
          rw [if_pos m0] at h2
          rw [if_neg (by omega), if_pos k1]
          omega
        · have := hb 0 (by omega)
          have := hb 1 (by omega)
          rw [if_neg (by omega), if_neg k1]
          by_cases m0 : m = 0
          · rw [if_pos m0] at h2; omega
          · have := h3 0 (by omega)
            rw [if_neg m0, if_pos (by omega)] at h2; omega
      · have m0 : ¬ m = 0 := by omega
        by_cases m1 : m = 1
        · have j0 : j = 0 := by omega
          subst j0
          rw [if_neg m0, if_pos m1] at h2 ⊢
          omega
        · rw [if_neg m0, if_neg m1] at h2 ⊢
          have := hb 0 (by omega); have := hb 1 (by omega); have := h3 0 (by omega); have := h3 1 (by omega)
          by_cases j0 : j = 0
          · subst j0; omega
          · have j1 : j = 1 := by omega
            subst j1
            have := he 0 (by omega)
            omega

/-- THE INVARIANT OF THE ITERATIONS, its parts given. -/
structure IV (R : REnv) (E : Env) (w0 : World) (B : Nat) (X : Nat → Prop) (c m : Nat) (L : Nat → Int) (W : World) (sa : Option Addr) (sc gs seen calls : Nat) (lv : Int) (pa : Option Addr) (pm pc gp : Nat) (U T : Nat → Int) : Prop where
  cs : CS E seen calls lv (.slice pa pm pc) U T W
  rs : RS R E c sa sc W
  st : Sl W sa E.n gs T
  lo : Below B w0 W
  sn : seen = if E.nf = 0 then 0 else c
  cl : seen ≠ 0 → calls = E.nf
  pr : seen ≠ 0 → pm = m ∧ Sl W pa m gp L
  ut : seen = 0 → ∀ i, i < E.n → U i = T i
  fx : ∀ b, X b → Free R E b ∧ (0 < E.n → b ≠ gs) ∧ (seen ≠ 0 → 0 < m → b ≠ gp)
  fs : 0 < E.n → Free R E gs
  fp : seen ≠ 0 → 0 < m → Free R E gp
  cb : Few c m L

def IVI (R : REnv) (E : Env) (w0 : World) (B : Nat) : Inv := fun X c m L W => ∃ sa sc gs seen calls lv pa pm pc gp U T, IV R E w0 B X c m L W sa sc gs seen calls lv pa pm pc gp U T

theorem ROwn.gt {R : REnv} {E : Env} (h : R.Ok E) {b : Nat} (hb : ROwn R b) : E.bprev < b := by
  have := h.p1; have := h.p2; have := h.p3; have := h.p4; have := h.p5; have := h.p6; have := h.p7; have := h.p8; have := h.p9
  rcases hb with rfl | rfl | rfl | rfl | rfl | rfl | rfl | rfl | rfl <;> omega

theorem ROwn.lt {R : REnv} {E : Env} {c : Nat} {sa : Option Addr} {sc : Nat} {W : World} (h : RS R E c sa sc W) {b : Nat} (hb : ROwn R b) : b < W.heap.size := by
  obtain ⟨_, _, hg⟩ := h.gv
  obtain ⟨_, hG⟩ := h.rF
  rcases hb with rfl | rfl | rfl | rfl | rfl | rfl | rfl | rfl | rfl
  · exact blk_lt h.s
  · exact blk_lt h.nx
  · exact blk_lt h.re
  · exact blk_lt h.r
  · exact blk_lt h.inv
  · exact blk_lt hg
  · exact blk_lt h.bF
  · exact hG.lt
  · exact blk_lt h.la

theorem ivi_abides {R : REnv} {E : Env} {w0 : World} {B : Nat} (hE : E.Ok B) (hR : R.Ok E) : Abides B (IVI R E w0 B) where
  turn := by
    rintro X c m L W W' ⟨sa, sc, gs, seen, calls, lv, pa, pm, pc, gp, U, T, h⟩ hc
    have o1 := hE.o1; have o2 := hE.o2; have o3 := hE.o3; have o4 := hE.o4; have o5 := hE.o5; have o6 := hE.o6; have o7 := hE.o7; have o8 := hE.o8; have o9 := hE.o9; have o10 := hE.o10
    refine ⟨sa, sc, gs, seen, calls, lv, pa, pm, pc, gp, U, T, h.cs.chg hE hc (fun b hb => (h.fx b hb).1.1), h.rs.chg hc (fun b hb hx => (h.fx b hx).1.2 hb) (fun hp hx => ?_), h.st.of_block (fun hp => hc.same _ (h.st.lt hp) (fun hx => (h.fx _ hx).2.1 hp rfl)), h.lo.trans hc.below, h.sn, h.cl, fun hs => ⟨(h.pr hs).1, (h.pr hs).2.of_block (fun hm => hc.same _ ((h.pr hs).2.lt hm) (fun hx => (h.fx _ hx).2.2 hs hm rfl))⟩, h.ut, h.fx, h.fs, h.fp, h.cb⟩
    have := (h.fx _ hx).1.1
    have := hR.pi hp
    omega
  weak := by
    rintro X Y c m L W ⟨sa, sc, gs, seen, calls, lv, pa, pm, pc, gp, U, T, h⟩ hY
    refine ⟨sa, sc, gs, seen, calls, lv, pa, pm, pc, gp, U, T, h.cs, h.rs, h.st, h.lo, h.sn, h.cl, h.pr, h.ut, fun b hb => ?_, h.fs, h.fp, h.cb⟩
    rcases hY b hb with hx | hx
    · exact h.fx b hx
    · have := blk_lt h.cs.pv
      refine ⟨⟨by omega, fun ho => by have := ROwn.lt h.rs ho; omega⟩, fun hp e => ?_, fun hs hm e => ?_⟩
      · have := h.st.lt hp; omega
      · have := (h.pr hs).2.lt hm; omega
end Go.Proofs.Ybulkyva
