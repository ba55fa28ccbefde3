import Derived.Test.YbulkyvaCopy
namespace Go.Proofs.Ybulkyva
open Go.RowKit
set_option linter.unusedVariables false

/-- What the law's run lays ahead of its iterations: the boxes that the closure captures, and its rows. -/
structure Env where
  n : Nat
  f : Nat
  nf : Nat
  fa : Option Addr
  fl : Nat
  fc : Nat
  Fa : Nat → Bool
  bn : Nat
  bf : Nat
  bfl : Nat
  bnf : Nat
  bcur : Nat
  bnxt : Nat
  bok : Nat
  bseen : Nat
  bcalls : Nat
  blast : Nat
  bprev : Nat
  ca : Option Addr
  cc : Nat
  gc : Nat
  xa : Option Addr
  cx : Nat
  gx : Nat

/-- How these lie. -/
structure Env.Ok (E : Env) (B : Nat) : Prop where
  hn : E.n ≤ 64
  hf : E.f ≤ 2
  hfl : E.fl ≤ 64
  o0 : B ≤ E.bn
  o1 : E.bn < E.bf
  o2 : E.bf < E.bfl
  o3 : E.bfl < E.bnf
  o4 : E.bnf < E.bcur
  o5 : E.bcur < E.bnxt
  o6 : E.bnxt < E.bok
  o7 : E.bok < E.bseen
  o8 : E.bseen < E.bcalls
  o9 : E.bcalls < E.blast
  o10 : E.blast < E.bprev
  oc : 0 < E.n → E.bnf < E.gc ∧ E.gc < E.bcur
  ox : 0 < E.n → E.bcur < E.gx ∧ E.gx < E.bnxt
  ofa : ∀ b o, E.fa = some ⟨b, o, none⟩ → b ≤ E.bnf ∧ b ≠ E.bn ∧ b ≠ E.bf ∧ b ≠ E.bfl

/-- What the closure may turn. -/
def CX (E : Env) (b : Nat) : Prop := E.bnf < b ∧ b ≤ E.bprev

/-- THE CLOSURE's STATE. -/
structure CS (E : Env) (seen calls : Nat) (lv : Int) (pv : Value) (U T : Nat → Int) (W : World) : Prop where
  n : W.heap[E.bn]? = some (.cells #[.int .i64 E.n] 3)
  f : W.heap[E.bf]? = some (.cells #[.int .i64 E.f] 3)
  fl : W.heap[E.bfl]? = some (.cells #[.slice E.fa E.fl E.fc] 44)
  nf : W.heap[E.bnf]? = some (.cells #[.int .i64 E.nf] 3)
  cur : W.heap[E.bcur]? = some (.cells #[.slice E.ca E.n E.cc] 30)
  nxt : W.heap[E.bnxt]? = some (.cells #[.slice E.xa E.n E.cx] 30)
  ok : W.heap[E.bok]? = some (.cells #[.bool true] 4)
  sn : W.heap[E.bseen]? = some (.cells #[.int .i64 seen] 3)
  cl : W.heap[E.bcalls]? = some (.cells #[.int .i64 calls] 3)
  la : W.heap[E.blast]? = some (.cells #[.int .i64 lv] 3)
  pv : W.heap[E.bprev]? = some (.cells #[pv] 30)
  rc : Sl W E.ca E.n E.gc U
  rx : Sl W E.xa E.n E.gx T
  mks : Marks W E.fa E.fl E.fc E.n E.Fa

/-- What lies outside the closure's own blocks may turn. -/
theorem CS.chg {E : Env} {B B' : Nat} {X : Nat → Prop} {seen calls : Nat} {lv : Int} {pv : Value} {U T : Nat → Int} {W W' : World} (h : CS E seen calls lv pv U T W) (hE : E.Ok B) (hc : Chg B' X W W') (hX : ∀ b, X b → E.bprev < b) : CS E seen calls lv pv U T W' := by
  have nx : ∀ b, b ≤ E.bprev → ¬ X b := fun b hb hx => by have := hX b hx; omega
  have o1 := hE.o1; have o2 := hE.o2; have o3 := hE.o3; have o4 := hE.o4; have o5 := hE.o5; have o6 := hE.o6; have o7 := hE.o7; have o8 := hE.o8; have o9 := hE.o9; have o10 := hE.o10
  refine ⟨(hc.same _ (blk_lt h.n) (nx _ (by omega))).trans h.n, (hc.same _ (blk_lt h.f) (nx _ (by omega))).trans h.f, (hc.same _ (blk_lt h.fl) (nx _ (by omega))).trans h.fl, (hc.same _ (blk_lt h.nf) (nx _ (by omega))).trans h.nf,
    (hc.same _ (blk_lt h.cur) (nx _ (by omega))).trans h.cur, (hc.same _ (blk_lt h.nxt) (nx _ (by omega))).trans h.nxt, (hc.same _ (blk_lt h.ok) (nx _ (by omega))).trans h.ok, (hc.same _ (blk_lt h.sn) (nx _ (by omega))).trans h.sn,
    (hc.same _ (blk_lt h.cl) (nx _ (by omega))).trans h.cl, (hc.same _ (blk_lt h.la) (nx _ (by omega))).trans h.la, (hc.same _ (blk_lt h.pv) (nx _ (by omega))).trans h.pv,
    h.rc.of_block (fun hp => hc.same _ (h.rc.lt hp) (nx _ (by have := hE.oc hp; omega))), h.rx.of_block (fun hp => hc.same _ (h.rx.lt hp) (nx _ (by have := hE.ox hp; omega))), h.mks.chg hc (fun b o e => nx _ (by have := hE.ofa b o e; omega))⟩
theorem CS.below {E : Env} {B : Nat} {seen calls : Nat} {lv : Int} {pv : Value} {U T : Nat → Int} {W W' : World} (h : CS E seen calls lv pv U T W) (hE : E.Ok B) (hb : Below W.heap.size W W') : CS E seen calls lv pv U T W' :=
  h.chg hE (Chg.of_below (B := 0) (X := fun _ => False) hb (Nat.zero_le _)) (fun _ h => h.elim)
theorem CS.drewN {E : Env} {seen calls : Nat} {lv : Int} {pv : Value} {U T : Nat → Int} {W : World} (h : CS E seen calls lv pv U T W) (q : Nat) : CS E seen calls lv pv U T (W.drewN q) :=
  ⟨h.n, h.f, h.fl, h.nf, h.cur, h.nxt, h.ok, h.sn, h.cl, h.la, h.pv, h.rc, h.rx, h.mks⟩
end Go.Proofs.Ybulkyva
