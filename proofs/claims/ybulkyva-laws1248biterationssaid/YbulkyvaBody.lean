import Derived.Test.YbulkyvaInv
namespace Go.Proofs.Ybulkyva
open Go.RowKit
set_option linter.unusedVariables false

/-- How many of the first n are not marked. -/
def nfB (Fa : Nat → Bool) : Nat → Nat
  | 0 => 0
  | n + 1 => nfB Fa n + (if Fa n then 0 else 1)
theorem nfB_le (Fa : Nat → Bool) (n : Nat) : nfB Fa n ≤ n := by
  induction n with
  | zero => exact Nat.le_refl _
  | succ n ih => unfold nfB; split <;> omega
theorem nfB_mark {Fa : Nat → Bool} {n : Nat} (h : Fa n = true) : nfB Fa (n + 1) = nfB Fa n := by simp [nfB, h]
theorem nfB_free {Fa : Nat → Bool} {n : Nat} (h : Fa n = false) : nfB Fa (n + 1) = nfB Fa n + 1 := by simp [nfB, h]
theorem nfB_mono {Fa : Nat → Bool} {n m : Nat} (h : n ≤ m) : nfB Fa n ≤ nfB Fa m := by
  induction m with
  | zero => have : n = 0 := by omega
            subst this; exact Nat.le_refl _
  | succ m ih =>
    by_cases e : n = m + 1
    · subst e; exact Nat.le_refl _
    · have := ih (by omega)
      show nfB Fa n ≤ nfB Fa m + _
      omega

theorem RS.rowF {R : REnv} {E : Env} {B : Nat} {c : Nat} {sa : Option Addr} {sc : Nat} {W W' : World} {G : Nat → Value} (h : RS R E c sa sc W) (hR : R.Ok E) (hc : Chg B (fun b => b = R.gF) W W') (hG : W'.rowIs R.gF 4 E.n G) (hp : E.bnf < R.gF) : RS R E c sa sc W' := by
  obtain ⟨b1, b2, hg⟩ := h.gv
  have q2 := hR.p2; have q3 := hR.p3; have q4 := hR.p4; have q5 := hR.p5; have q6 := hR.p6; have q7 := hR.p7; have q8 := hR.p8; have q9 := hR.p9
  have st : ∀ b, b < W.heap.size → b ≠ R.gF → W'.heap[b]? = W.heap[b]? := fun b hl hb => hc.same b hl hb
  exact ⟨(st _ (blk_lt h.s) (by omega)).trans h.s, (st _ (blk_lt h.nx) (by omega)).trans h.nx, (st _ (blk_lt h.re) (by omega)).trans h.re, (st _ (blk_lt h.r) (by omega)).trans h.r,
    (st _ (blk_lt h.inv) (by omega)).trans h.inv, ⟨b1, b2, (st _ (blk_lt hg) (by omega)).trans hg⟩, (st _ (blk_lt h.bF) (by omega)).trans h.bF, ⟨G, hG⟩,
    (st _ (blk_lt h.la) (by omega)).trans h.la, h.ri.of_block (fun hp' => st _ (h.ri.lt hp') (by have := hR.pi hp'; omega))⟩

theorem Sl.other {W : World} {a : Option Addr} {n g : Nat} {f : Nat → Int} {p : Addr} {v : Value} (h : Sl W a n g f) (hne : g ≠ p.block) : Sl (W.setCell p v) a n g f := h.of_block (fun _ => Below.heap_setCell _ _ _ _ hne)

/-- What an iteration may turn, of what lay there when it began. -/
def ZX (R : REnv) (E : Env) (b : Nat) : Prop := CX E b ∨ b = R.gF ∨ b = R.gv ∨ b = R.br ∨ b = R.blab

/-- IN AN ITERATION, v nodes being through: 'after' holds Y. -/
structure LP (R : REnv) (E : Env) (B : Nat) (W2 : World) (c k g gs gt v : Nat) (sa ta : Option Addr) (sc : Nat) (F T Y : Nat → Int) (W : World) : Prop where
  rs : RS R E c sa sc W
  st : Sl W sa E.n gs T
  ro : W.rowIs R.gF 4 E.n (fun i => .bool (contB F i k))
  rg : IRow W g k F
  ra : Sl W ta E.n gt Y
  ch : Chg B (ZX R E) W2 W

/-- None has been called yet; some has. -/
def LM (R : REnv) (E : Env) (gt c k v seen calls : Nat) (lv : Int) (pa : Option Addr) (pm pc gp : Nat) (F L U T Y : Nat → Int) (W : World) : Prop :=
  (nfB E.Fa v = 0 ∧ CS E seen calls lv (.slice pa pm pc) U T W ∧ Y = T ∧ (seen ≠ 0 → Sl W pa pm gp L)) ∨
  (nfB E.Fa v ≠ 0 ∧ ∃ lv' pa' pc' gp', CS E (c + 1) (nfB E.Fa v) lv' (.slice pa' k pc') T Y W ∧ lv' < (v : Int) ∧ Sl W pa' k gp' F ∧ gt < gp')

/-- A step that turns nothing that lay there. -/
theorem LP.below {R : REnv} {E : Env} {B : Nat} {W2 W W' : World} {c k g gs gt v : Nat} {sa ta : Option Addr} {sc : Nat} {F T Y : Nat → Int} (h : LP R E B W2 c k g gs gt v sa ta sc F T Y W) (hb : Below W.heap.size W W') (hB : B ≤ W.heap.size) :
    LP R E B W2 c k g gs gt v sa ta sc F T Y W' :=
  ⟨h.rs.chg (Chg.of_below (B := 0) (X := fun _ => False) hb (Nat.zero_le _)) (fun _ _ h => h) (fun _ h => h), h.st.below hb, h.ro.of_block (hb.block _ h.ro.lt), h.rg.below hb, h.ra.below hb, h.ch.trans (Chg.of_below hb hB)⟩
theorem LM.below {R : REnv} {E : Env} {B : Nat} {W W' : World} {gt c k v seen calls : Nat} {lv : Int} {pa : Option Addr} {pm pc gp : Nat} {F L U T Y : Nat → Int} (hE : E.Ok B) (h : LM R E gt c k v seen calls lv pa pm pc gp F L U T Y W) (hb : Below W.heap.size W W') :
    LM R E gt c k v seen calls lv pa pm pc gp F L U T Y W' := by
  rcases h with ⟨h1, h2, h3, h4⟩ | ⟨h1, lv', pa', pc', gp', h2, h3, h4, h5⟩
  · exact .inl ⟨h1, h2.below hE hb, h3, fun hs => (h4 hs).below hb⟩
  · exact .inr ⟨h1, lv', pa', pc', gp', h2.below hE hb, h3, h4.below hb, h5⟩
theorem LM.mark {R : REnv} {E : Env} {W : World} {gt c k v seen calls : Nat} {lv : Int} {pa : Option Addr} {pm pc gp : Nat} {F L U T Y : Nat → Int} (h : LM R E gt c k v seen calls lv pa pm pc gp F L U T Y W) (hF : E.Fa v = true) :
    LM R E gt c k (v + 1) seen calls lv pa pm pc gp F L U T Y W := by
  unfold LM
  rw [nfB_mark hF]
  rcases h with h | ⟨h1, lv', pa', pc', gp', h2, h3, h4, h5⟩
  · exact .inl h
  · exact .inr ⟨h1, lv', pa', pc', gp', h2, by omega, h4, h5⟩

/-- ONE CALL OF THE CLOSURE, whichever: 'after' is to hold its answer too. -/
theorem next_calls (R : REnv) (E : Env) (B : Nat) (W2 W : World) (c k g gs gt v seen calls : Nat) (lv : Int) (pa : Option Addr) (pm pc gp m : Nat) (sa ta : Option Addr) (sc : Nat) (F L U T Y : Nat → Int) (hE : E.Ok B) (hR : R.Ok E) (hnn : 0 < E.n)
    (h : LP R E B W2 c k g gs gt v sa ta sc F T Y W) (hm : LM R E gt c k v seen calls lv pa pm pc gp F L U T Y W) (hg : E.bprev < g) (hgs : E.bprev < gs) (hgt : W2.heap.size ≤ gt) (hgp : seen ≠ 0 → 0 < pm → E.bprev < gp)
    (hsn : seen = c) (hcl : seen ≠ 0 → calls = E.nf) (hut : seen = 0 → ∀ i, i < E.n → U i = T i) (hFo : Follows E.n E.f c pm L k F) (hk : k ≤ 1024) (hc : c ≤ 100000) (hv : v < E.n) (hFa : E.Fa v = false) (hz : E.bprev < W2.heap.size) :
    Calls Yba.prog 12 (#[.pointer (some ⟨R.br, 0, none⟩), .int .i64 c, .slice (some ⟨g, 0, none⟩) k k, .slice (some ⟨R.gF, 0, none⟩) E.n E.n, .int .i64 v] ++ caps E) W fun e w' =>
      ∃ z : Int, e = .returned (.int .i64 z) ∧ LP R E B W2 c k g gs gt v sa ta sc F T Y w' ∧ LM R E gt c k (v + 1) seen calls lv pa pm pc gp F L U T (upd Y v z) w' := by
  have out : ∀ b, E.bprev < b → ¬ CX E b := fun b hb hx => by have := hx.2; omega
  have hgl : 0 < E.n → E.bprev < gt := fun _ => by omega
  have keep : ∀ w', Chg B (CX E) W w' → LP R E B W2 c k g gs gt v sa ta sc F T Y w' := fun w' hc' =>
    ⟨h.rs.chg hc' (fun b hb hx => out b (ROwn.gt hR hb) hx) (fun hp hx => by have := hR.pi hp; have := hx.1; omega), h.st.of_block (fun hp => hc'.same _ (h.st.lt hp) (out _ hgs)), h.ro.of_block (hc'.same _ h.ro.lt (out _ (ROwn.gt hR (by simp [ROwn])))),
      h.rg.of_block (hc'.same _ h.rg.lt (out _ hg)), h.ra.of_block (fun hp => hc'.same _ (h.ra.lt hp) (out _ (hgl hp))), h.ch.trans (hc'.mono (fun b hb => .inl hb))⟩
  have hbF : E.bprev < R.gF := ROwn.gt hR (by simp [ROwn])
  have hbr : E.bprev < R.br := ROwn.gt hR (by simp [ROwn])
  rcases hm with ⟨h1, h2, rfl, h4⟩ | ⟨h1, lv', pa', pc', gp', h2, h3, h4, h5⟩
  · subst hsn
    obtain ⟨rfl, rst⟩ := h.st.row hnn
    have rr := cells_at (i := 3) (v := .slice (some ⟨gs, 0, none⟩) E.n sc) h.rs.r rfl
    refine (next_first E B seen calls R.br g gs k R.gF v sc lv pa pm pc gp L F Y U W hE hnn hbF hg hgs hbr hgp h2 h4 hcl hut h.rg hFo hk hc hv hFa rr rst h.ro).mono ?_
    · rintro e w' ⟨z, rfl, ⟨pa', gp', pc', hcs, hsl, hge⟩, hch⟩
      refine ⟨z, rfl, keep w' hch, .inr ⟨by rw [nfB_free hFa]; omega, v, pa', pc', gp', ?_, by omega, hsl, Nat.lt_of_lt_of_le (h.ra.lt hnn) hge⟩⟩
      rw [nfB_free hFa, h1]
      exact hcs
  · refine (next_rest E B c (nfB E.Fa v) R.br g k R.gF v lv' pa' pc' gp' F T Y W hE hnn hbF h2 h4 h.rg hk hc (by have := nfB_le E.Fa v; have := hE.hn; omega) hv h3 hFa h.ro).mono ?_
    rintro e w' ⟨z, rfl, hcs, hch⟩
    refine ⟨z, rfl, keep w' hch, .inr ⟨by rw [nfB_free hFa]; omega, v, pa', pc', gp', ?_, by omega, ?_, h5⟩⟩
    · rw [nfB_free hFa]; exact hcs
    · exact h4.of_block (fun hp => hch.same _ (h4.lt hp) (out _ (by omega)))

theorem LM.marks {R : REnv} {E : Env} {W : World} {gt c k v seen calls : Nat} {lv : Int} {pa : Option Addr} {pm pc gp : Nat} {F L U T Y : Nat → Int} (h : LM R E gt c k v seen calls lv pa pm pc gp F L U T Y W) : Marks W E.fa E.fl E.fc E.n E.Fa := by
  rcases h with ⟨_, h, _⟩ | ⟨_, _, _, _, _, h, _⟩ <;> exact h.mks

/-- Blocks beside the closure's may turn, prev's row being let alone. -/
theorem LM.chg {R : REnv} {E : Env} {B B' : Nat} {X : Nat → Prop} {W W' : World} {gt c k v seen calls : Nat} {lv : Int} {pa : Option Addr} {pm pc gp : Nat} {F L U T Y : Nat → Int} (hE : E.Ok B) (h : LM R E gt c k v seen calls lv pa pm pc gp F L U T Y W) (hc : Chg B' X W W')
    (hX : ∀ b, X b → E.bprev < b) (h1 : ∀ b, gt < b → ¬ X b) (h2 : seen ≠ 0 → 0 < pm → ¬ X gp) : LM R E gt c k v seen calls lv pa pm pc gp F L U T Y W' := by
  rcases h with ⟨a1, a2, a3, a4⟩ | ⟨a1, lv', pa', pc', gp', a2, a3, a4, a5⟩
  · exact .inl ⟨a1, a2.chg hE hc hX, a3, fun hs => (a4 hs).of_block (fun hp => hc.same _ ((a4 hs).lt hp) (h2 hs hp))⟩
  · exact .inr ⟨a1, lv', pa', pc', gp', a2.chg hE hc hX, a3, a4.of_block (fun hp => hc.same _ (a4.lt hp) (h1 _ a5)), a5⟩

/-- The answer goes into 'after'. -/
theorem LP.store {R : REnv} {E : Env} {B : Nat} {W2 W : World} {c k g gs gt v : Nat} {sa ta : Option Addr} {sc : Nat} {F T Y : Nat → Int} (h : LP R E B W2 c k g gs gt v sa ta sc F T Y W) (hE : E.Ok B) (hR : R.Ok E) (hnn : 0 < E.n) (hgt : W2.heap.size ≤ gt) (hW : ∀ b, ROwn R b → b < W2.heap.size) (hg : g < W2.heap.size) (hgs : gs < W2.heap.size) (hbp : E.bprev < W2.heap.size) (z : Int) :
    LP R E B W2 c k g gs gt (v + 1) sa ta sc F T (upd Y v z) (W.setCell ⟨gt, v, none⟩ (.int .i64 z)) := by
  have hc : Chg B (fun b => b = gt) W (W.setCell ⟨gt, v, none⟩ (.int .i64 z)) := (Chg.refl B (fun b => b = gt) W).setCell (p := ⟨gt, v, none⟩) (by have := hE.o0; have := hE.o1; have := hE.o2; have := hE.o3; have := hE.o4; have := hE.o5; have := hE.o6; have := hE.o7; have := hE.o8; have := hE.o9; have := hE.o10; (try dsimp only); omega) (.inl rfl) _
  obtain ⟨e, r⟩ := h.ra.row hnn
  refine ⟨h.rs.chg hc (fun b hb hx => by have := hW b hb; (try dsimp only at hx); omega) (fun hp hx => ?_), h.st.other (by (try dsimp only); omega), h.ro.setOther (by (try dsimp only); have := hW R.gF (by simp [ROwn]); omega) _, h.rg.other (by (try dsimp only); omega) _, .inr ⟨e, r.set v z⟩, h.ch.trans_new hc (fun b hb => .inr (by (try dsimp only at hb); omega))⟩
  have := hR.pi hp; have := hE.o4; have := hE.o5; have := hE.o6; have := hE.o7; have := hE.o8; have := hE.o9; have := hE.o10
  (try dsimp only at hx)
  omega
theorem LM.store {R : REnv} {E : Env} {B : Nat} {W : World} {gt c k v seen calls : Nat} {lv : Int} {pa : Option Addr} {pm pc gp : Nat} {F L U T Y : Nat → Int} {p : Nat} {z : Value} (hE : E.Ok B) (h : LM R E gt c k v seen calls lv pa pm pc gp F L U T Y W) (hgt : E.bprev < gt) (h2 : seen ≠ 0 → 0 < pm → gp ≠ gt) :
    LM R E gt c k v seen calls lv pa pm pc gp F L U T Y (W.setCell ⟨gt, p, none⟩ z) :=
  h.chg hE (B' := 0) (X := fun b => b = gt) ((Chg.refl 0 (fun b => b = gt) W).setCell (p := ⟨gt, p, none⟩) (Nat.zero_le _) (.inl rfl) _) (fun b hb => by (try dsimp only at hb); omega) (fun b hb hx => by (try dsimp only at hx); omega) (fun hs hp hx => h2 hs hp hx)

/-- THE END OF AN ITERATION. -/
theorem iter_end {R : REnv} {E : Env} {w0 : World} {B : Nat} {X : Nat → Prop} {c m : Nat} {L : Nat → Int} {W2 wr w10 : World} {sa : Option Addr} {sc gs seen calls : Nat} {lv : Int} {pa : Option Addr} {pm pc gp : Nat} {U T F Y : Nat → Int} {k g gt tc : Nat} {ta : Option Addr}
    (hE : E.Ok B) (hR : R.Ok E) (hnf : E.nf = nfB E.Fa E.n) (h : IV R E w0 B X c m L W2 sa sc gs seen calls lv pa pm pc gp U T) (P : LP R E B W2 c k g gs gt E.n sa ta sc F T Y wr) (M : LM R E gt c k E.n seen calls lv pa pm pc gp F L U T Y wr)
    (hc : Chg B (fun b => b = R.gv ∨ b = R.br ∨ b = R.blab) wr w10) (V10 : ∃ c1 c2 : Bool, w10.heap[R.gv]? = some (.cells #[.slice R.ia E.n R.ic, .slice E.fa E.fl E.fc, .nilIface, .int .i64 R.z, .bool c1, .bool c2] 88))
    (R10 : w10.heap[R.br]? = some (.cells (rcells (.slice R.ia E.n R.ic) (.slice E.fa E.fl E.fc) .nilIface (.slice ta E.n tc)) 57)) (L10 : w10.heap[R.blab]? = some (.cells #[.int .i64 ((c + 1 : Nat) : Int)] 3))
    (hgt : W2.heap.size ≤ gt) (hX : ∀ b, X b → b < W2.heap.size) (hfew : Few (c + 1) k F) : IVI R E w0 B X (c + 1) k F w10 ∧ Same X W2 w10 ∧ W2.heap.size ≤ w10.heap.size := by
  have own2 : ∀ b, ROwn R b → b < W2.heap.size := fun b hb => ROwn.lt h.rs hb
  have ob : ∀ b, (b = R.gv ∨ b = R.br ∨ b = R.blab) → ROwn R b := fun b hb => by rcases hb with rfl | rfl | rfl <;> simp [ROwn]
  have q1 := hR.p1; have q2 := hR.p2; have q3 := hR.p3; have q4 := hR.p4; have q5 := hR.p5; have q6 := hR.p6; have q7 := hR.p7; have q8 := hR.p8; have q9 := hR.p9
  have bp2 : E.bprev < W2.heap.size := blk_lt h.cs.pv
  have o4 := hE.o4; have o5 := hE.o5; have o6 := hE.o6; have o7 := hE.o7; have o8 := hE.o8; have o9 := hE.o9; have o10 := hE.o10
  have st : ∀ b, b < wr.heap.size → b ≠ R.gv → b ≠ R.br → b ≠ R.blab → w10.heap[b]? = wr.heap[b]? := fun b hl h1 h2 h3 => hc.same b hl (fun e => by rcases e with e | e | e; exact h1 e; exact h2 e; exact h3 e)
  have hsame : Same X W2 w10 := fun b hb hx => by
    have hf := (h.fx b hx).1
    have e1 := hc.same b (Nat.lt_of_lt_of_le hb P.ch.size) (fun e => hf.2 (ob b e))
    refine e1.trans (P.ch.same b hb (fun e => ?_))
    rcases e with e | e | e | e | e
    · have := e.2; have := hf.1; omega
    · exact hf.2 (by rw [e]; simp [ROwn])
    · exact hf.2 (by rw [e]; simp [ROwn])
    · exact hf.2 (by rw [e]; simp [ROwn])
    · exact hf.2 (by rw [e]; simp [ROwn])
  have hRS : RS R E (c + 1) ta tc w10 := by
    have r := P.rs
    exact ⟨(st _ (blk_lt r.s) (by omega) (by omega) (by omega)).trans r.s, (st _ (blk_lt r.nx) (by omega) (by omega) (by omega)).trans r.nx, (st _ (blk_lt r.re) (by omega) (by omega) (by omega)).trans r.re, R10,
      (st _ (blk_lt r.inv) (by omega) (by omega) (by omega)).trans r.inv, V10, (st _ (blk_lt r.bF) (by omega) (by omega) (by omega)).trans r.bF, ⟨_, P.ro.of_block (st _ P.ro.lt (by omega) (by omega) (by omega))⟩, L10,
      r.ri.of_block (fun hp => by have := hR.pi hp; exact st _ (r.ri.lt hp) (by omega) (by omega) (by omega))⟩
  have hST : Sl w10 ta E.n gt Y := P.ra.of_block (fun hp => by have a1 := own2 R.gv (by simp [ROwn]); have a2 := own2 R.br (by simp [ROwn]); have a3 := own2 R.blab (by simp [ROwn]); exact st _ (P.ra.lt hp) (by omega) (by omega) (by omega))
  have hlo : Below B w0 w10 := h.lo.trans (P.ch.below.trans hc.below)
  have fgt : ∀ b, W2.heap.size ≤ b → Free R E b := fun b hb => ⟨by omega, fun ho => by have := own2 b ho; omega⟩
  have M' := M.chg hE hc (fun b hb => ROwn.gt hR (ob b hb)) (fun b hb hx => by have := own2 b (ob b hx); omega) (fun hs hp hx => by
    have e := (h.pr hs).1
    rw [e] at hp
    exact (h.fp hs hp).2 (ob _ hx))
  refine ⟨?_, hsame, Nat.le_trans P.ch.size hc.size⟩
  rcases M' with ⟨a1, a2, rfl, a4⟩ | ⟨a1, lv', pa', pc', gp', a2, a3, a4, a5⟩
  · have hz : E.nf = 0 := by rw [hnf]; exact a1
    have hs0 : seen = 0 := by rw [h.sn, if_pos hz]
    exact ⟨ta, tc, gt, seen, calls, lv, pa, pm, pc, gp, U, Y, a2, hRS, hST, hlo, by rw [if_pos hz]; exact hs0, h.cl, fun hs => absurd hs0 hs, h.ut, fun b hb => ⟨(h.fx b hb).1, fun _ => by have := hX b hb; omega, fun hs => absurd hs0 hs⟩, fun _ => fgt gt hgt, fun hs => absurd hs0 hs, hfew⟩
  · have hz : E.nf ≠ 0 := by rw [hnf]; exact a1
    exact ⟨ta, tc, gt, c + 1, nfB E.Fa E.n, lv', pa', k, pc', gp', T, Y, a2, hRS, hST, hlo, by rw [if_neg hz], fun _ => hnf.symm, fun _ => ⟨rfl, a4⟩, fun h0 => by omega, fun b hb => ⟨(h.fx b hb).1, fun _ => by have := hX b hb; omega, fun _ _ => by have := hX b hb; omega⟩, fun _ => fgt gt hgt, fun _ _ => fgt gp' (by omega), hfew⟩
end Go.Proofs.Ybulkyva
