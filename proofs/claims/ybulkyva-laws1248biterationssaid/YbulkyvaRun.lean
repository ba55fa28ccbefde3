import Derived.Test.YbulkyvaBody
import Derived.Test.YbulkyvaCands1
import Derived.Test.YbulkyvaCands2
import Derived.Deep.Cut
import Derived.Deep.RegionHeld3
namespace Go.Proofs.Ybulkyva
open Go.RowKit Go.Shelf
set_option linter.unusedVariables false
set_option linter.unusedSimpArgs false
attribute [local go_sem] Oper.semAt_some

/-- All sizes. -/
theorem cands_iter (B n f Bk Bn : Nat) (m : Nat) (L : Nat → Int) (X : Nat → Prop) (w : World) (hn : n ≤ 64) (hf : f ≤ 2) (hB : B ≤ w.heap.size) (hX : ∀ b, X b → b < w.heap.size)
    (hk : w.heap[Bk]? = some (.cells #[.int .i64 f] 3)) (hN : w.heap[Bn]? = some (.cells #[.int .i64 n] 3)) (xk : X Bk) (xn : X Bn) :
    Iterates B n f X 0 m L (cnt n f) (min f n) 33 #[.pointer (some ⟨Bk, 0, none⟩), .pointer (some ⟨Bn, 0, none⟩)] w := by
  by_cases h0 : f ≤ 0 ∨ n ≤ 0
  · have e1 : cnt n f = 1 := by
      have a1 : ¬ (1 ≤ f ∧ 1 ≤ n) := by omega
      have a2 : ¬ (2 ≤ f ∧ 2 ≤ n) := by omega
      simp [cnt, a1, a2]
    have e2 : min f n = 0 := by omega
    rw [e1, e2]
    exact cands0 B n f Bk Bn m L X w hn hf h0 hB hX hk hN xk xn
  · by_cases h1 : f ≤ 1 ∨ n ≤ 1
    · have e1 : cnt n f = 0 + 1 + n := by
        have a1 : 1 ≤ f ∧ 1 ≤ n := by omega
        have a2 : ¬ (2 ≤ f ∧ 2 ≤ n) := by omega
        simp [cnt, a1, a2]
      have e2 : min f n = 1 := by omega
      rw [e1, e2]
      exact cands1 B n f Bk Bn m L X w hn hf (by omega) (by omega) h1 hB hX hk hN xk xn
    · have e1 : cnt n f = 0 + 1 + n + pb n (n - 1) := by
        have a1 : 1 ≤ f ∧ 1 ≤ n := by omega
        have a2 : 2 ≤ f ∧ 2 ≤ n := by omega
        simp [cnt, a1, a2]
      have e2 : min f n = 2 := by omega
      rw [e1, e2]
      exact cands2 B n f Bk Bn m L X w hn hf (by omega) (by omega) hB hX hk hN xk xn

/-- Fifteen stores into one block. -/
abbrev set15 (w : World) (b : Nat) (v0 v1 v2 v3 v4 v5 v6 v7 v8 v9 v10 v11 v12 v13 v14 : Value) : World := (((((((((((((((w.setCell ⟨b, 0, none⟩ v0).setCell ⟨b, 1, none⟩ v1).setCell ⟨b, 2, none⟩ v2).setCell ⟨b, 3, none⟩ v3).setCell ⟨b, 4, none⟩ v4).setCell ⟨b, 5, none⟩ v5).setCell ⟨b, 6, none⟩ v6).setCell ⟨b, 7, none⟩ v7).setCell ⟨b, 8, none⟩ v8).setCell ⟨b, 9, none⟩ v9).setCell ⟨b, 10, none⟩ v10).setCell ⟨b, 11, none⟩ v11).setCell ⟨b, 12, none⟩ v12).setCell ⟨b, 13, none⟩ v13).setCell ⟨b, 14, none⟩ v14)
section
variable {w : World} {b p : Nat} {v0 v1 v2 v3 v4 v5 v6 v7 v8 v9 v10 v11 v12 v13 v14 : Value}
theorem set15_blk (hp : p ≠ b) : (set15 w b v0 v1 v2 v3 v4 v5 v6 v7 v8 v9 v10 v11 v12 v13 v14).heap[p]? = w.heap[p]? := by
  iterate 15 rw [Below.heap_setCell _ _ _ _ hp]
theorem set15_same {u0 u1 u2 u3 u4 u5 u6 u7 u8 u9 u10 u11 u12 u13 u14 : Value} {t : Nat} (h : w.heap[b]? = some (.cells #[u0, u1, u2, u3, u4, u5, u6, u7, u8, u9, u10, u11, u12, u13, u14] t)) : (set15 w b v0 v1 v2 v3 v4 v5 v6 v7 v8 v9 v10 v11 v12 v13 v14).heap[b]? = some (.cells #[v0, v1, v2, v3, v4, v5, v6, v7, v8, v9, v10, v11, v12, v13, v14] t) := by
  have h0 : (w.setCell ⟨b, 0, none⟩ v0).heap[b]? = some (.cells #[v0, u1, u2, u3, u4, u5, u6, u7, u8, u9, u10, u11, u12, u13, u14] t) := blk_set h 0 v0
  have h1 : ((w.setCell ⟨b, 0, none⟩ v0).setCell ⟨b, 1, none⟩ v1).heap[b]? = some (.cells #[v0, v1, u2, u3, u4, u5, u6, u7, u8, u9, u10, u11, u12, u13, u14] t) := blk_set h0 1 v1
  have h2 : (((w.setCell ⟨b, 0, none⟩ v0).setCell ⟨b, 1, none⟩ v1).setCell ⟨b, 2, none⟩ v2).heap[b]? = some (.cells #[v0, v1, v2, u3, u4, u5, u6, u7, u8, u9, u10, u11, u12, u13, u14] t) := blk_set h1 2 v2
  have h3 : ((((w.setCell ⟨b, 0, none⟩ v0).setCell ⟨b, 1, none⟩ v1).setCell ⟨b, 2, none⟩ v2).setCell ⟨b, 3, none⟩ v3).heap[b]? = some (.cells #[v0, v1, v2, v3, u4, u5, u6, u7, u8, u9, u10, u11, u12, u13, u14] t) := blk_set h2 3 v3
  have h4 : (((((w.setCell ⟨b, 0, none⟩ v0).setCell ⟨b, 1, none⟩ v1).setCell ⟨b, 2, none⟩ v2).setCell ⟨b, 3, none⟩ v3).setCell ⟨b, 4, none⟩ v4).heap[b]? = some (.cells #[v0, v1, v2, v3, v4, u5, u6, u7, u8, u9, u10, u11, u12, u13, u14] t) := blk_set h3 4 v4
  have h5 : ((((((w.setCell ⟨b, 0, none⟩ v0).setCell ⟨b, 1, none⟩ v1).setCell ⟨b, 2, none⟩ v2).setCell ⟨b, 3, none⟩ v3).setCell ⟨b, 4, none⟩ v4).setCell ⟨b, 5, none⟩ v5).heap[b]? = some (.cells #[v0, v1, v2, v3, v4, v5, u6, u7, u8, u9, u10, u11, u12, u13, u14] t) := blk_set h4 5 v5
  have h6 : (((((((w.setCell ⟨b, 0, none⟩ v0).setCell ⟨b, 1, none⟩ v1).setCell ⟨b, 2, none⟩ v2).setCell ⟨b, 3, none⟩ v3).setCell ⟨b, 4, none⟩ v4).setCell ⟨b, 5, none⟩ v5).setCell ⟨b, 6, none⟩ v6).heap[b]? = some (.cells #[v0, v1, v2, v3, v4, v5, v6, u7, u8, u9, u10, u11, u12, u13, u14] t) := blk_set h5 6 v6
  have h7 : ((((((((w.setCell ⟨b, 0, none⟩ v0).setCell ⟨b, 1, none⟩ v1).setCell ⟨b, 2, none⟩ v2).setCell ⟨b, 3, none⟩ v3).setCell ⟨b, 4, none⟩ v4).setCell ⟨b, 5, none⟩ v5).setCell ⟨b, 6, none⟩ v6).setCell ⟨b, 7, none⟩ v7).heap[b]? = some (.cells #[v0, v1, v2, v3, v4, v5, v6, v7, u8, u9, u10, u11, u12, u13, u14] t) := blk_set h6 7 v7
  have h8 : (((((((((w.setCell ⟨b, 0, none⟩ v0).setCell ⟨b, 1, none⟩ v1).setCell ⟨b, 2, none⟩ v2).setCell ⟨b, 3, none⟩ v3).setCell ⟨b, 4, none⟩ v4).setCell ⟨b, 5, none⟩ v5).setCell ⟨b, 6, none⟩ v6).setCell ⟨b, 7, none⟩ v7).setCell ⟨b, 8, none⟩ v8).heap[b]? = some (.cells #[v0, v1, v2, v3, v4, v5, v6, v7, v8, u9, u10, u11, u12, u13, u14] t) := blk_set h7 8 v8
  have h9 : ((((((((((w.setCell ⟨b, 0, none⟩ v0).setCell ⟨b, 1, none⟩ v1).setCell ⟨b, 2, none⟩ v2).setCell ⟨b, 3, none⟩ v3).setCell ⟨b, 4, none⟩ v4).setCell ⟨b, 5, none⟩ v5).setCell ⟨b, 6, none⟩ v6).setCell ⟨b, 7, none⟩ v7).setCell ⟨b, 8, none⟩ v8).setCell ⟨b, 9, none⟩ v9).heap[b]? = some (.cells #[v0, v1, v2, v3, v4, v5, v6, v7, v8, v9, u10, u11, u12, u13, u14] t) := blk_set h8 9 v9
  have h10 : (((((((((((w.setCell ⟨b, 0, none⟩ v0).setCell ⟨b, 1, none⟩ v1).setCell ⟨b, 2, none⟩ v2).setCell ⟨b, 3, none⟩ v3).setCell ⟨b, 4, none⟩ v4).setCell ⟨b, 5, none⟩ v5).setCell ⟨b, 6, none⟩ v6).setCell ⟨b, 7, none⟩ v7).setCell ⟨b, 8, none⟩ v8).setCell ⟨b, 9, none⟩ v9).setCell ⟨b, 10, none⟩ v10).heap[b]? = some (.cells #[v0, v1, v2, v3, v4, v5, v6, v7, v8, v9, v10, u11, u12, u13, u14] t) := blk_set h9 10 v10
  have h11 : ((((((((((((w.setCell ⟨b, 0, none⟩ v0).setCell ⟨b, 1, none⟩ v1).setCell ⟨b, 2, none⟩ v2).setCell ⟨b, 3, none⟩ v3).setCell ⟨b, 4, none⟩ v4).setCell ⟨b, 5, none⟩ v5).setCell ⟨b, 6, none⟩ v6).setCell ⟨b, 7, none⟩ v7).setCell ⟨b, 8, none⟩ v8).setCell ⟨b, 9, none⟩ v9).setCell ⟨b, 10, none⟩ v10).setCell ⟨b, 11, none⟩ v11).heap[b]? = some (.cells #[v0, v1, v2, v3, v4, v5, v6, v7, v8, v9, v10, v11, u12, u13, u14] t) := blk_set h10 11 v11
  have h12 : (((((((((((((w.setCell ⟨b, 0, none⟩ v0).setCell ⟨b, 1, none⟩ v1).setCell ⟨b, 2, none⟩ v2).setCell ⟨b, 3, none⟩ v3).setCell ⟨b, 4, none⟩ v4).setCell ⟨b, 5, none⟩ v5).setCell ⟨b, 6, none⟩ v6).setCell ⟨b, 7, none⟩ v7).setCell ⟨b, 8, none⟩ v8).setCell ⟨b, 9, none⟩ v9).setCell ⟨b, 10, none⟩ v10).setCell ⟨b, 11, none⟩ v11).setCell ⟨b, 12, none⟩ v12).heap[b]? = some (.cells #[v0, v1, v2, v3, v4, v5, v6, v7, v8, v9, v10, v11, v12, u13, u14] t) := blk_set h11 12 v12
  have h13 : ((((((((((((((w.setCell ⟨b, 0, none⟩ v0).setCell ⟨b, 1, none⟩ v1).setCell ⟨b, 2, none⟩ v2).setCell ⟨b, 3, none⟩ v3).setCell ⟨b, 4, none⟩ v4).setCell ⟨b, 5, none⟩ v5).setCell ⟨b, 6, none⟩ v6).setCell ⟨b, 7, none⟩ v7).setCell ⟨b, 8, none⟩ v8).setCell ⟨b, 9, none⟩ v9).setCell ⟨b, 10, none⟩ v10).setCell ⟨b, 11, none⟩ v11).setCell ⟨b, 12, none⟩ v12).setCell ⟨b, 13, none⟩ v13).heap[b]? = some (.cells #[v0, v1, v2, v3, v4, v5, v6, v7, v8, v9, v10, v11, v12, v13, u14] t) := blk_set h12 13 v13
  have h14 : (((((((((((((((w.setCell ⟨b, 0, none⟩ v0).setCell ⟨b, 1, none⟩ v1).setCell ⟨b, 2, none⟩ v2).setCell ⟨b, 3, none⟩ v3).setCell ⟨b, 4, none⟩ v4).setCell ⟨b, 5, none⟩ v5).setCell ⟨b, 6, none⟩ v6).setCell ⟨b, 7, none⟩ v7).setCell ⟨b, 8, none⟩ v8).setCell ⟨b, 9, none⟩ v9).setCell ⟨b, 10, none⟩ v10).setCell ⟨b, 11, none⟩ v11).setCell ⟨b, 12, none⟩ v12).setCell ⟨b, 13, none⟩ v13).setCell ⟨b, 14, none⟩ v14).heap[b]? = some (.cells #[v0, v1, v2, v3, v4, v5, v6, v7, v8, v9, v10, v11, v12, v13, v14] t) := blk_set h13 14 v14
  exact h14
theorem set15_below {B : Nat} {w0 : World} (h : Below B w0 w) (hb : B ≤ b) : Below B w0 (set15 w b v0 v1 v2 v3 v4 v5 v6 v7 v8 v9 v10 v11 v12 v13 v14) := (((((((((((((((h.setCell (p := ⟨b, 0, none⟩) hb _).setCell (p := ⟨b, 1, none⟩) hb _).setCell (p := ⟨b, 2, none⟩) hb _).setCell (p := ⟨b, 3, none⟩) hb _).setCell (p := ⟨b, 4, none⟩) hb _).setCell (p := ⟨b, 5, none⟩) hb _).setCell (p := ⟨b, 6, none⟩) hb _).setCell (p := ⟨b, 7, none⟩) hb _).setCell (p := ⟨b, 8, none⟩) hb _).setCell (p := ⟨b, 9, none⟩) hb _).setCell (p := ⟨b, 10, none⟩) hb _).setCell (p := ⟨b, 11, none⟩) hb _).setCell (p := ⟨b, 12, none⟩) hb _).setCell (p := ⟨b, 13, none⟩) hb _).setCell (p := ⟨b, 14, none⟩) hb _)
end

theorem made_row {V : World} {g n t : Nat} {z : Value} (h : V.heap[g]? = some (.cells (madeCells #[z] n) t)) : V.rowIs g t n (fun _ => z) := by
  obtain ⟨c, hc, hs, hi⟩ := World.rowIs_made V z n t
  have e := blk_new V (.cells (madeCells #[z] n) t)
  rw [e] at hc
  have : c = madeCells #[z] n := by injection hc with hc; injection hc with hc; exact hc.symm
  subst this
  exact ⟨_, h, hs, hi⟩

theorem six_boxes (W : World) (o0 o1 o2 o3 o4 o5 : Obj) {P : Nat} (hP : W.heap.size = P) {V : World} (hV : (((((W.alloc o0).alloc o1).alloc o2).alloc o3).alloc o4).alloc o5 = V) :
    V.heap[P]? = some o0 ∧ V.heap[P + 1]? = some o1 ∧ V.heap[P + 1 + 1]? = some o2 ∧ V.heap[P + 1 + 1 + 1]? = some o3 ∧ V.heap[P + 1 + 1 + 1 + 1]? = some o4 ∧ V.heap[P + 1 + 1 + 1 + 1 + 1]? = some o5 ∧ Below W.heap.size W V ∧ V.heap.size = P + 6 := by
  subst hP; subst hV
  have e1 := blk_new (W.alloc o0) o1
  have e2 := blk_new ((W.alloc o0).alloc o1) o2
  have e3 := blk_new (((W.alloc o0).alloc o1).alloc o2) o3
  have e4 := blk_new ((((W.alloc o0).alloc o1).alloc o2).alloc o3) o4
  have e5 := blk_new (((((W.alloc o0).alloc o1).alloc o2).alloc o3).alloc o4) o5
  simp only [World.size_alloc] at e1 e2 e3 e4 e5
  refine ⟨alloc_keep (alloc_keep (alloc_keep (alloc_keep (alloc_keep (blk_new W o0))))), alloc_keep (alloc_keep (alloc_keep (alloc_keep e1))), alloc_keep (alloc_keep (alloc_keep e2)), alloc_keep (alloc_keep e3), alloc_keep e4, e5, ?_, by simp⟩
  exact (((((below_one W o0).alloc (by simp) o1).alloc (by simp; omega) o2).alloc (by simp; omega) o3).alloc (by simp; omega) o4).alloc (by simp; omega) o5

/-- WHAT runIterations LEAVES. -/
structure RunPost (E : Env) (w0 : World) (B : Nat) (ia : Option Addr) (gi : Nat) (fi : Nat → Int) (sa : Option Addr) (sc : Nat) (T : Nat → Int) (W : World) : Prop where
  ex : ∃ seen calls lv pv U gs, CS E seen calls lv pv U T W ∧ seen = (if E.nf = 0 then 0 else cnt E.n E.f) ∧ (seen ≠ 0 → calls = E.nf) ∧ (seen = 0 → ∀ i, i < E.n → U i = T i) ∧ Sl W sa E.n gs (decs T E.Fa E.n) ∧ E.bprev < gs
  ri : Sl W ia E.n gi fi
  lo : Below B w0 W

set_option maxHeartbeats 8000000 in
set_option maxRecDepth 100000 in
theorem run_calls (E : Env) (B : Nat) (w0 w : World) (ia : Option Addr) (ic gi : Nat) (fi : Nat → Int) (lv : Int) (pv : Value) (hE : E.Ok B) (hC : CS E 0 0 lv (.slice none 0 0) fi fi w) (hi : Sl w ia E.n gi fi) (hlo : Below B w0 w)
    (hgi : 0 < E.n → gi ≤ E.bnf ∧ gi ≠ E.bn ∧ gi ≠ E.bf ∧ gi ≠ E.bfl) (hfl : E.fa ≠ none → E.fl = E.n) (hnf : E.nf = nfB E.Fa E.n) :
    Calls Yba.prog 15 #[.agg #[.slice ia E.n ic, .slice E.fa E.fl E.fc, .nilIface], .int .i64 E.n, .int .i64 E.f, .func (.func 12) #[] (caps E)] w fun e w' =>
      ∃ sa sc T b1 b2, e = .returned (.agg (outv (.slice sa E.n sc) (!(heldB (decs T E.Fa E.n) E.Fa 0 E.n && heldB (decs T E.Fa E.n) E.Fa 1 E.n)) ((!heldB (decs T E.Fa E.n) E.Fa 0 E.n || heldB fi E.Fa 0 E.n) && (!heldB (decs T E.Fa E.n) E.Fa 1 E.n || heldB fi E.Fa 1 E.n)) (termB T E.Fa E.n) b1 b2)) ∧
        RunPost E w0 B ia gi fi sa sc T w' := by
  refine (callsIn_wide (n := 3)).1 ?_
  refine callsIn_of_wp_marks Yba.func15 rfl trivial ?_ rfl
  refine wpIn_wide.2 ?_
  simp only [Yba.ntmps15, List.size_toArray, List.length_cons, List.length_nil, Nat.reduceAdd, Nat.reduceSub, Array.replicate_succ, Array.replicate_zero, List.push_toArray, List.append_toArray, List.nil_append, List.cons_append]
  have hbp := blk_lt hC.pv
  obtain ⟨S, hS⟩ : ∃ S, w.heap.size = S := ⟨_, rfl⟩
  go_wp2
  obtain ⟨W1, hW1⟩ : ∃ W1, (((w.alloc (.cells #[.slice ia E.n ic, .slice E.fa E.fl E.fc, .nilIface] 51)).alloc (.cells #[.func (.func 12) #[] (caps E)] 59)).alloc Z61) = W1 := ⟨_, rfl⟩
  obtain ⟨a1, a2, a3⟩ := three_boxes w (.cells #[.slice ia E.n ic, .slice E.fa E.fl E.fc, .nilIface] 51) (.cells #[.func (.func 12) #[] (caps E)] 59) Z61
  have b1 : Below w.heap.size w W1 := by rw [← hW1]; exact below_three _ _ _ _
  have z1 : W1.heap.size = S + 3 := by rw [← hW1]; simp [hS]
  rw [hS, hW1] at a1 a2 a3
  rw [hW1]
  have HS : Hid (w.heap.size = S) := hS
  clear hS hW1
  have i1 := hi.below b1
  have q0 := cells_at (i := 0) (v := .slice ia E.n ic) a1 rfl
  have q1 := cells_at (i := 1) (v := .slice E.fa E.fl E.fc) a1 rfl
  have q2 := cells_at (i := 2) (v := .nilIface) a1 rfl
  have hn64 := hE.hn
  have K1 : Hid (∀ W, Below W1.heap.size W1 W → Calls Yba.prog 11 #[.slice ia E.n ic] W fun e w' => ∃ a' g c, e = .returned (.slice a' E.n c) ∧ Below W.heap.size W w' ∧ Below W1.heap.size W1 w' ∧ W.heap.size ≤ g ∧ Sl w' a' E.n g fi) :=
    fun W hb => (clone_sl ia E.n ic gi fi W (by omega) (i1.below hb)).mono (fun e w' ⟨a', g, c, h1, h2, h3, h4⟩ => ⟨a', g, c, h1, h2, hb.trans (h2.mono hb.size), h3, h4⟩)
  have r0 := Below.refl W1.heap.size W1
  have n0 : ¬ S = W1.heap.size := by omega
  clear i1
  go_cut [9] from 18 (fun s9 wq => ∃ br sa sc gs, s9 = .pointer (some ⟨br, 0, none⟩) ∧ S + 3 ≤ br ∧ S + 3 ≤ gs ∧ Below W1.heap.size W1 wq ∧ wq.heap[br]? = some (.cells (rcells (.slice ia E.n ic) (.slice E.fa E.fl E.fc) .nilIface (.slice sa E.n sc)) 57) ∧ Sl wq sa E.n gs fi ∧ (0 < E.n → br ≠ gs))
  case first =>
    go_region_held3 (fun w' => w'.cell? ⟨S, 0, none⟩ = some (.slice ia E.n ic) ∧ w'.cell? ⟨S, 1, none⟩ = some (.slice E.fa E.fl E.fc) ∧ w'.cell? ⟨S, 2, none⟩ = some .nilIface) (go_keep)
      (first
        | (go_at_call 11; with_reducible (refine (K1.out _ ?_).mono ?_); (repeat (first | with_reducible exact r0 | with_reducible refine Below.drew ?_ | with_reducible refine Below.alloc ?_ (by (try simp only [size_drew, World.size_alloc]); omega) _)); rintro e w2 ⟨sa, gs, sc, rfl, hb2, hc2, hg2, hs2⟩; have e2 := zz0 hc2 a1; have c0 := cells_at (i := 0) (v := .slice ia E.n ic) e2 rfl; have c1 := cells_at (i := 1) (v := .slice E.fa E.fl E.fc) e2 rfl; have c2 := cells_at (i := 2) (v := .nilIface) e2 rfl; have zz2 := hb2.size; (try simp only [size_drew, World.size_alloc] at zz2); (have : ¬ S = w2.heap.size := by omega); (try (have B0' : w2.heap[W1.heap.size]? = some (.cells #[.slice none 0 0, .slice none 0 0, .nilIface, .slice none 0 0, .bool false, .slice none 0 0, .slice none 0 0, .slice none 0 0, .slice none 0 0, .slice none 0 0, .int .i64 0, .int .i64 0, .int .i64 0, .int .i64 0, .slice none 0 0] 57) := zz0 hb2 (blk_d1 W1 _); have B0 : w2.heap[S + 3]? = some (.cells #[.slice none 0 0, .slice none 0 0, .nilIface, .slice none 0 0, .bool false, .slice none 0 0, .slice none 0 0, .slice none 0 0, .slice none 0 0, .slice none 0 0, .int .i64 0, .int .i64 0, .int .i64 0, .int .i64 0, .slice none 0 0] 57) := (by rw [z1] at B0'; exact B0'); clear B0'; have y0 := cells_at (i := 0) (v := .slice none 0 0) B0 rfl; have y1 := cells_at (i := 1) (v := .slice none 0 0) B0 rfl; have y2 := cells_at (i := 2) (v := .nilIface) B0 rfl; have y3 := cells_at (i := 3) (v := .slice none 0 0) B0 rfl; have y4 := cells_at (i := 4) (v := .bool false) B0 rfl; have y5 := cells_at (i := 5) (v := .slice none 0 0) B0 rfl; have y6 := cells_at (i := 6) (v := .slice none 0 0) B0 rfl; have y7 := cells_at (i := 7) (v := .slice none 0 0) B0 rfl; have y8 := cells_at (i := 8) (v := .slice none 0 0) B0 rfl; have y9 := cells_at (i := 9) (v := .slice none 0 0) B0 rfl; have y10 := cells_at (i := 10) (v := .int .i64 0) B0 rfl; have y11 := cells_at (i := 11) (v := .int .i64 0) B0 rfl; have y12 := cells_at (i := 12) (v := .int .i64 0) B0 rfl; have y13 := cells_at (i := 13) (v := .int .i64 0) B0 rfl; have y14 := cells_at (i := 14) (v := .slice none 0 0) B0 rfl; have fz := fun i => frozen_at B0 i)))
        | fail)
    · go_wp2_with fail
      go_meet
      case rel =>
        have hg2' : S + 3 ≤ gs := by rw [size_drew, z1] at hg2; exact hg2
        exact ⟨_, sa, sc, gs, rfl, by omega, hg2', hc2.alloc hc2.size _, blk_new w2 _, hs2.below (below_one _ _), fun hp => by have := hs2.lt hp; omega⟩
    · go_wp2_with fail
      go_meet
      case rel =>
        have hg2' : S + 4 ≤ gs := by rw [size_drew, World.size_alloc, z1] at hg2; exact hg2
        exact ⟨S + 3, sa, sc, gs, rfl, Nat.le_refl _, by omega, set15_below hc2 (by omega), set15_same B0, hs2.of_block (fun _ => set15_blk (by omega)), fun _ => by omega⟩
  case rest =>
    obtain ⟨br, sa, sc, gs, rfl, hbr, hgs, b2, A4, s2, nbg⟩ := hcut
    clear q0 q1 q2 K1 r0 n0
    have c1 := zz0 b2 a1
    have c2 := zz0 b2 a2
    have c3 := zz0 b2 a3
    have hb0 : Below w.heap.size w wc := b1.trans (b2.mono (by have := HS.out; omega))
    have hCc := hC.below hE hb0
    have hic := hi.below hb0
    have q0 := cells_at (i := 0) (v := .slice ia E.n ic) c1 rfl
    have q1 := cells_at (i := 1) (v := .slice E.fa E.fl E.fc) c1 rfl
    have q2 := cells_at (i := 2) (v := .nilIface) c1 rfl
    have hMf : Marks wc E.fa E.fl E.fc E.fl E.Fa := by
      rcases hCc.mks with h | ⟨b, o, e, h1, h2, h3⟩
      · exact .inl h
      · exact .inr ⟨b, o, e, Nat.le_refl _, h2, fun i hi => h3 i (by have := hfl (by rw [e]; simp); omega)⟩
    go_wp2_with fail
    refine (newinv_calls _ _ E.fa E.fl E.fc E.Fa wc (by have := hE.hfl; omega) hMf).mono ?_
    rintro e w3 ⟨gv, z, rfl, hb3, hgv, V3⟩
    clear hMf q0 q1 q2
    have hmk := fun w => run_make_row' (P := Yba.prog) 44 4 (.bool false) 1 Yba.underlying44 Yba.info4 rfl .i64 .i64 E.n (by omega) (by omega) w
    obtain ⟨P, hP⟩ : ∃ P, w3.heap.size = P := ⟨_, rfl⟩
    go_wp2_with (go_at_call 25; refine (cands_calls _ _ _).mono ?_; rintro e w' ⟨rfl, rfl⟩)
    clear hmk
    obtain ⟨V, hV⟩ : ∃ V, ((((((w3.alloc (.cells #[.pointer (some ⟨gv, 0, none⟩)] 73)).alloc (.cells (madeCells #[.bool false] E.n) 4)).alloc (.cells #[.slice (some ⟨P + 1, 0, none⟩) E.n E.n] 44)).alloc (.cells #[.int .i64 0] 3)).alloc (.cells #[.int .i64 E.n] 3)).alloc (.cells #[.int .i64 E.f] 3)) = V := ⟨_, rfl⟩
    obtain ⟨d0, d1, d2, d3, d4, d5, bV, zV⟩ := six_boxes w3 _ _ _ _ _ _ hP hV
    rw [hV]
    clear hV
    have HP : Hid (w3.heap.size = P) := hP
    have lgv : gv < P := by have := blk_lt V3; omega
    have lbr : br < wc.heap.size := blk_lt A4
    have lwc : wc.heap.size ≤ P := by have := hb3.size; omega
    have lS := HS.out
    have bcV : Below wc.heap.size wc V := hb3.trans (bV.mono (by omega))
    clear hP
    obtain ⟨R, eia, eic, egi, efi, es, en, ere, er, ei, eg, eF, ebF, el, ez⟩ : ∃ R : REnv, R.ia = ia ∧ R.ic = ic ∧ R.gi = gi ∧ R.fi = fi ∧ R.bs = S ∧ R.bnext = S + 1 ∧ R.bres = S + 1 + 1 ∧ R.br = br ∧ R.binv = P ∧ R.gv = gv ∧ R.gF = P + 1 ∧ R.binF = P + 1 + 1 ∧ R.blab = P + 1 + 1 + 1 ∧ R.z = z :=
      ⟨⟨ia, ic, gi, fi, S, S + 1, S + 1 + 1, br, P, gv, P + 1 + 1, P + 1, P + 1 + 1 + 1, z⟩, rfl, rfl, rfl, rfl, rfl, rfl, rfl, rfl, rfl, rfl, rfl, rfl, rfl, rfl⟩
    subst eia; subst eic; subst egi; subst efi; subst er; subst eg; subst ez
    have hR : R.Ok E := ⟨by omega, by omega, by omega, by omega, by omega, by omega, by omega, by omega, by omega, hgi⟩
    have hRS : RS R E 0 sa sc V := by
      refine ⟨?_, ?_, ?_, zz0 bcV A4, ?_, ⟨false, true, zz0 bV V3⟩, ?_, ⟨fun _ => .bool false, ?_⟩, ?_, (hic.below bcV)⟩
      · rw [es]; exact zz0 bcV c1
      · rw [en]; exact zz0 bcV c2
      · rw [ere]; exact zz0 bcV c3
      · rw [ei]; exact d0
      · rw [ebF, eF]; exact d2
      · rw [eF]; exact made_row d1
      · rw [el]; exact d3
    have hCV := hCc.below hE bcV
    have hSV : Sl V sa E.n gs R.fi := s2.below bcV
    have hIV : IVI R E w0 B (fun b => b = R.blab + 1 ∨ b = R.blab + 1 + 1) 0 0 (fun _ => 0) V := by
      refine ⟨sa, sc, gs, 0, 0, lv, none, 0, 0, 0, R.fi, R.fi, hCV, hRS, hSV, ?_, by simp, fun h => absurd rfl h, fun h => absurd rfl h, fun _ _ _ => rfl, ?_, ?_, fun h => absurd rfl h, .inl rfl⟩
      · exact hlo.trans ((hb0.trans (bcV.mono hb0.size)).mono (by have := hE.o0; have := blk_lt hC.n; omega))
      · rintro b hb
        refine ⟨⟨by omega, fun ho => ?_⟩, fun hp => by have := s2.lt hp; omega, fun h => absurd rfl h⟩
        unfold ROwn at ho
        omega
      · intro hp
        have := s2.lt hp
        have := nbg hp
        refine ⟨by omega, fun ho => ?_⟩
        unfold ROwn at ho
        omega
    rw [← el, ← ebF, ← eF, ← ei, ← ere, ← en, ← es]
    rw [← el] at d4 d5
    have zB : R.blab + 3 = V.heap.size := by omega
    have hBV : B ≤ V.heap.size := by have := hE.o0; have := blk_lt hCV.n; omega
    clear a1 a2 a3 b1 b2 A4 s2 nbg c1 c2 c3 hb0 hCc hic V3 hb3 hgv d0 d1 d2 d3 bV HP lgv lbr lwc bcV el ebF eF ei ere en es hRS hCV hSV hC hi hlo hgi hbr hgs z1 HS lS hbp
    have hA := ivi_abides (w0 := w0) hE hR
    refine (wpIn_wide (n := 3)).1 ?_
    refine range_law (n := E.n) (f := E.f) hA (gf := 33) (lb := #[.pointer (some ⟨R.blab + 1 + 1, 0, none⟩), .pointer (some ⟨R.blab + 1, 0, none⟩)]) rfl (enters_of Yba.func33 (by kernel_rfl) rfl)
      (X := fun b => b = R.blab + 1 ∨ b = R.blab + 1 + 1) (c := 0) (m := 0) (L := fun _ => 0) hIV (fun b hb => by omega) hBV ?hbody
      (cands_iter B E.n E.f (R.blab + 1 + 1) (R.blab + 1) 0 _ _ V hE.hn hE.hf hBV (fun b hb => by omega) d5 d4 (.inr rfl) (.inl rfl)) ?hdone
    case hdone =>
      rintro D L' W hD ⟨sa, sc, gs, seen, calls, lv2, pa, pm, pc, gp, U, T, h⟩ hd hs hz
      have q1 := hR.p1; have q2 := hR.p2; have q3 := hR.p3; have q4 := hR.p4; have q5 := hR.p5; have q6 := hR.p6; have q7 := hR.p7; have q8 := hR.p8; have q9 := hR.p9
      have fD := (h.fx D (.inr (.inl rfl)))
      have lD := blk_lt hd
      obtain ⟨gd, hgl, hgf, hgD, hsl⟩ : ∃ gd, gd < W.heap.size ∧ Free R E gd ∧ gd ≠ D ∧ Sl W sa E.n gd T := by
        by_cases hp : 0 < E.n
        · exact ⟨gs, h.st.lt hp, h.fs hp, fun e => fD.2.1 hp e.symm, h.st⟩
        · exact ⟨R.blab + 1, by omega, (h.fx _ (.inl (.inl rfl))).1, by omega, .inl (by omega)⟩
      have nown : ∀ b, ROwn R b → b ≠ gd := fun b hb e => hgf.2 (e ▸ hb)
      obtain ⟨b1, b2, hgv⟩ := h.rs.gv
      have hfm : E.fl ≤ maxLen := by have := hE.hfl; unfold maxLen; omega
      have ebp : E.bnf < E.bprev := by have := hE.o4; have := hE.o5; have := hE.o6; have := hE.o7; have := hE.o8; have := hE.o9; have := hE.o10; omega
      have x0 := cells_at (i := 0) (v := .pointer (some ⟨R.gv, 0, none⟩)) h.rs.inv rfl
      have x1 := cells_at (i := 3) (v := .slice sa E.n sc) h.rs.r rfl
      go_wp2_with fail
      refine (routcome_calls R.br R.gv R.ia sa E.fa R.ic sc E.fl E.fc E.n R.gi gd .nilIface (.slice sa E.n sc) R.z b1 b2 E.Fa R.fi T W (by have := hE.hn; omega) hfm h.cs.mks (fun b o e => by have := hE.ofa b o e; have := hgf.1; omega) (fun hp => by have := hR.pi hp; have := hgf.1; omega) h.rs.ri hsl hgl h.rs.r hgv (nown _ (by simp [ROwn])) (nown _ (by simp [ROwn]))).mono ?_
      rintro e w5 ⟨rfl, hC5, hD5⟩
      clear x0 x1
      have A5 := (hC5.same R.bres (blk_lt h.rs.re) (nown _ (by simp [ROwn]))).trans h.rs.re
      have D5 := (hC5.same D lD (fun e => hgD e.symm)).trans hd
      have r0 := cells_at (i := 0) (v := .slice none 0 0) A5 rfl
      have r1 := cells_at (i := 1) (v := .bool false) A5 rfl
      have r2 := cells_at (i := 2) (v := .bool false) A5 rfl
      have r3 := cells_at (i := 3) (v := .bool false) A5 rfl
      have r4 := cells_at (i := 4) (v := .bool false) A5 rfl
      have r5 := cells_at (i := 5) (v := .bool false) A5 rfl
      have r6 := cells_at (i := 6) (v := .int .i64 0) A5 rfl
      have r7 := cells_at (i := 7) (v := .int .i64 0) A5 rfl
      have r8 := cells_at (i := 8) (v := .int .i64 0) A5 rfl
      have fz := fun i => frozen_at A5 i
      go_wp2
      have E6 := set9_same (v0 := .slice sa E.n sc) (v1 := .bool (!heldB (decs T E.Fa E.n) E.Fa 0 E.n || !heldB (decs T E.Fa E.n) E.Fa 1 E.n)) (v2 := .bool ((!heldB (decs T E.Fa E.n) E.Fa 0 E.n || heldB R.fi E.Fa 0 E.n) && (!heldB (decs T E.Fa E.n) E.Fa 1 E.n || heldB R.fi E.Fa 1 E.n))) (v3 := .bool (termB T E.Fa E.n)) (v4 := .bool b1) (v5 := .bool b2) (v6 := .int .i64 0) (v7 := .int .i64 0) (v8 := .int .i64 0) A5
      obtain ⟨W6, hW6⟩ : ∃ W6, set9 w5 R.bres (.slice sa E.n sc) (.bool (!heldB (decs T E.Fa E.n) E.Fa 0 E.n || !heldB (decs T E.Fa E.n) E.Fa 1 E.n)) (.bool ((!heldB (decs T E.Fa E.n) E.Fa 0 E.n || heldB R.fi E.Fa 0 E.n) && (!heldB (decs T E.Fa E.n) E.Fa 1 E.n || heldB R.fi E.Fa 1 E.n))) (.bool (termB T E.Fa E.n)) (.bool b1) (.bool b2) (.int .i64 0) (.int .i64 0) (.int .i64 0) = W6 := ⟨_, rfl⟩
      have hBg : B ≤ gd := by have := hE.o0; have := hE.o1; have := hE.o2; have := hE.o3; have := hgf.1; omega
      have bsd : R.bres ≠ gd := nown _ (by simp [ROwn])
      have nDb : D ≠ R.bres := fun e => fD.1.2 (by rw [e]; simp [ROwn])
      have hBb : B ≤ R.bres := by have := hE.o0; have := hE.o1; have := hE.o2; have := hE.o3; omega
      have lbr := blk_lt h.rs.re
      have C6 : Chg B (fun b => b = gd ∨ b = R.bres) W W6 := by
        rw [← hW6]
        have a0 : Chg B (fun b => b = gd ∨ b = R.bres) W w5 := (hC5.lower hBg).mono (fun b hb => .inl hb)
        exact (((((((((a0.setCell (p := ⟨R.bres, 0, none⟩) hBb (.inl (.inr rfl)) _).setCell (p := ⟨R.bres, 1, none⟩) hBb (.inl (.inr rfl)) _).setCell (p := ⟨R.bres, 2, none⟩) hBb (.inl (.inr rfl)) _).setCell (p := ⟨R.bres, 3, none⟩) hBb (.inl (.inr rfl)) _).setCell (p := ⟨R.bres, 4, none⟩) hBb (.inl (.inr rfl)) _).setCell (p := ⟨R.bres, 5, none⟩) hBb (.inl (.inr rfl)) _).setCell (p := ⟨R.bres, 6, none⟩) hBb (.inl (.inr rfl)) _).setCell (p := ⟨R.bres, 7, none⟩) hBb (.inl (.inr rfl)) _).setCell (p := ⟨R.bres, 8, none⟩) hBb (.inl (.inr rfl)) _)
      have D6 : W6.heap[D]? = some (.deferred (some [])) := by rw [← hW6]; exact set9_other nDb D5
      have S6 : Sl W6 sa E.n gd (decs T E.Fa E.n) := by rw [← hW6]; exact hD5.of_block (fun _ => set9_blk bsd.symm)
      dsimp only [set9] at hW6 E6
      rw [hW6] at E6 ⊢
      clear hW6
      have E7 : (W6.putObj D (.deferred none)).heap[R.bres]? = _ := (World.putObj_heap_other nDb.symm).trans E6
      have m0 := cells_at (i := 0) (v := .slice sa E.n sc) E7 rfl
      have m1 := cells_at (i := 1) (v := .bool (!heldB (decs T E.Fa E.n) E.Fa 0 E.n || !heldB (decs T E.Fa E.n) E.Fa 1 E.n)) E7 rfl
      have m2 := cells_at (i := 2) (v := .bool ((!heldB (decs T E.Fa E.n) E.Fa 0 E.n || heldB R.fi E.Fa 0 E.n) && (!heldB (decs T E.Fa E.n) E.Fa 1 E.n || heldB R.fi E.Fa 1 E.n))) E7 rfl
      have m3 := cells_at (i := 3) (v := .bool (termB T E.Fa E.n)) E7 rfl
      have m4 := cells_at (i := 4) (v := .bool b1) E7 rfl
      have m5 := cells_at (i := 5) (v := .bool b2) E7 rfl
      have m6 := cells_at (i := 6) (v := .int .i64 0) E7 rfl
      have m7 := cells_at (i := 7) (v := .int .i64 0) E7 rfl
      have m8 := cells_at (i := 8) (v := .int .i64 0) E7 rfl
      have C7 : Chg B (fun b => b = gd ∨ b = R.bres ∨ b = D) W (W6.putObj D (.deferred none)) := (C6.mono (fun b hb => hb.elim .inl (fun e => .inr (.inl e)))).putObj (by have := hBb; have := fD.1.1; have := hE.o0; have := hE.o1; have := hE.o2; have := hE.o3; omega) (.inl (.inr (.inr rfl))) _
      have S7 : Sl (W6.putObj D (.deferred none)) sa E.n gd (decs T E.Fa E.n) := S6.of_block (fun _ => World.putObj_heap_other hgD)
      refine ⟨by simp, .inl ⟨_, _, rfl, run_takeDeferred D6, ?_⟩⟩
      refine ⟨.agg (outv (.slice sa E.n sc) (!heldB (decs T E.Fa E.n) E.Fa 0 E.n || !heldB (decs T E.Fa E.n) E.Fa 1 E.n) ((!heldB (decs T E.Fa E.n) E.Fa 0 E.n || heldB R.fi E.Fa 0 E.n) && (!heldB (decs T E.Fa E.n) E.Fa 1 E.n || heldB R.fi E.Fa 1 E.n)) (termB T E.Fa E.n) b1 b2), ?_, sa, sc, T, b1, b2, ?_, ?_⟩
      · simp [results, Yba.results15, go_sem, m0, m1, m2, m3, m4, m5, m6, m7, m8]
      · simp
      · refine ⟨⟨seen, calls, lv2, .slice pa pm pc, U, gd, h.cs.chg hE C7 ?_, h.sn, h.cl, h.ut, S7, hgf.1⟩, h.rs.ri.of_block (fun hp => C7.same _ (h.rs.ri.lt hp) ?_), h.lo.trans C7.below⟩
        · rintro b (rfl | rfl | rfl)
          · exact hgf.1
          · omega
          · exact fD.1.1
        · have := hR.pi hp
          have := hgf.1
          have := fD.1.1
          rintro (e | e | e) <;> omega
    case hbody =>
      clear hIV d4 d5 zB hBV
      rintro l D X c m L g k F W q hJ hg hr hF xl xD hXb
      gi_wp2
      refine ⟨trivial, ?_⟩
      rintro W2 ⟨sa, sc, gs, seen, calls, lv, pa, pm, pc, gp, U, T, h⟩ hr2 hz2
      have fg := (h.fx g hg).1
      have gne : ∀ b, ROwn R b → g ≠ b := fun b hb e => fg.2 (e ▸ hb)
      have ggF := gne R.gF (by simp [ROwn])
      have hk2 : k ≤ 2 := by have := hF.few; have := hE.hf; omega
      have hkz : (k : Int) ≤ 2 := by omega
      have hn64 := hE.hn
      have hnz : (E.n : Int) ≤ 64 := by omega
      obtain ⟨G, hG⟩ := h.rs.rF
      obtain ⟨w3, hclr, hF3, hC3⟩ := clear_run W2 R.gF E.n G hG
      have p1 := cells_at (i := 0) (v := .slice (some ⟨R.gF, 0, none⟩) E.n E.n) h.rs.bF rfl
      have Hh : Hid (IV R E w0 B X c m L W2 sa sc gs seen calls lv pa pm pc gp U T) := h
      clear h
      gi_wp2
      gi_loopw [34] (fun i wr => ∃ j : Nat, j ≤ k ∧ i = .int .i64 j ∧ wr.rowIs R.gF 4 E.n (fun i => .bool (contB F i j)) ∧ Chg R.gF (fun b => b = R.gF) W2 wr) (fun i _ => k - (intOf i).toNat)
      case atStart => exact ⟨0, Nat.zero_le _, rfl, hF3, hC3⟩
      case round =>
        obtain ⟨j, hj, rfl, hrow, hch⟩ := hrel
        by_cases hlt : j < k
        · have Fr : IRow wr g k F := hr2.of_block (hch.same g hr2.lt (by simpa using ggF))
          have e1 := Fr.cell hlt
          obtain ⟨mm, hmm⟩ := Int.eq_ofNat_of_zero_le (hF.low j hlt)
          have hmn : mm < E.n := by have := hF.high j hlt; omega
          rw [hmm] at e1
          have hmz : (mm : Int) < (E.n : Int) := by omega
          have bne : R.binF ≠ R.gF := by have := hR.p8; omega
          have e2 := cells_at (i := 0) (v := .slice (some ⟨R.gF, 0, none⟩) E.n E.n) ((hch.same R.binF (blk_lt Hh.out.rs.bF) bne).trans Hh.out.rs.bF) rfl
          have e3 := hrow.cell hmn
          have e4 := hrow.frozen mm
          have HM : Hid (F j = (mm : Int)) := hmm
          clear hmm hclr
          gi_wp2
          go_roundw
          case rel =>
            refine ⟨j + 1, by omega, by go_num, (hrow.set mm (.bool true)).congr (fun i hi => ?_), hch.setCell (p := ⟨R.gF, mm, none⟩) (Nat.le_refl _) (.inl rfl) _⟩
            have hmm := HM.out
            by_cases ei : i = mm
            · subst ei; simp [contB, hmm]
            · have : ¬ F j = (i : Int) := by omega
              simp [contB, ei, this]
          case measure => simp [intOf]; omega
        · obtain rfl : j = k := by omega
          have h := Hh.out
          have gFb : E.bprev < R.gF := ROwn.gt hR (by simp [ROwn])
          have o4 := hE.o4; have o5 := hE.o5; have o6 := hE.o6; have o7 := hE.o7; have o8 := hE.o8; have o9 := hE.o9; have o10 := hE.o10
          have CSr := h.cs.chg hE hch (fun b hb => by (try dsimp only at hb); omega)
          have RSr := h.rs.rowF hR hch hrow (by omega)
          have STr : Sl wr sa E.n gs T := h.st.of_block (fun hp => hch.same gs (h.st.lt hp) (fun e => (h.fs hp).2 (by (try dsimp only at e); rw [e]; simp [ROwn])))
          have PRr : seen ≠ 0 → Sl wr pa m gp L := fun hs => (h.pr hs).2.of_block (fun hm => hch.same gp ((h.pr hs).2.lt hm) (fun e => (h.fp hs hm).2 (by (try dsimp only at e); rw [e]; simp [ROwn])))
          have Fr : IRow wr g j F := hr2.of_block (hch.same g hr2.lt (by simpa using ggF))
          have zr := hch.size
          clear o4 o5 o6 o7 o8 o9 o10 h hclr p1 hF3 hC3
          have e1 := cells_at (i := 3) (v := .slice sa E.n sc) RSr.r rfl
          gi_wp2
          refine ⟨trivial, fun h => by simp [Fence.wide] at h, ?_⟩
          refine (CallsIn.inRound l (callsIn_wide.2 (clone_sl sa E.n sc gs T wr (by omega) STr))).mono ?_
          rintro e w4 ⟨ta, gt, tc, rfl, hb4, hg4, ra4⟩
          clear e1
          have h := Hh.out
          have hBr : B ≤ wr.heap.size := by have := hE.o0; have := blk_lt CSr.n; omega
          have hBF : B ≤ R.gF := by have := hE.o0; have := hE.o1; have := hE.o2; have := hE.o3; have := hE.o4; have := hE.o5; have := hE.o6; have := hE.o7; have := hE.o8; have := hE.o9; have := hE.o10; omega
          have hgt2 : W2.heap.size ≤ gt := by omega
          have own2 : ∀ b, ROwn R b → b < W2.heap.size := fun b hb => ROwn.lt h.rs hb
          have g2l : g < W2.heap.size := hr2.lt
          have bp2 : E.bprev < W2.heap.size := blk_lt h.cs.pv
          have LP0 : LP R E B W2 c j g gs gt 0 sa ta sc F T T w4 := ⟨RSr.chg (Chg.of_below (B := 0) (X := fun _ => False) hb4 (Nat.zero_le _)) (fun _ _ h => h) (fun _ h => h), STr.below hb4, hrow.of_block (hb4.block _ hrow.lt), Fr.below hb4, ra4, ((hch.lower hBF).mono (fun b hb => .inr (.inl hb))).trans (Chg.of_below hb4 hBr)⟩
          have LM0 : LM R E gt c j 0 seen calls lv pa pm pc gp F L U T T w4 := .inl ⟨rfl, CSr.below hE hb4, rfl, fun hs => by rw [(h.pr hs).1]; exact (PRr hs).below hb4⟩
          have gsl : 0 < E.n → gs < W2.heap.size := fun hp => h.st.lt hp
          have gsb : 0 < E.n → E.bprev < gs := fun hp => (h.fs hp).1
          have gpb : seen ≠ 0 → 0 < pm → E.bprev < gp ∧ gp < W2.heap.size := fun hs hp => by have e := (h.pr hs).1; rw [e] at hp; exact ⟨(h.fp hs hp).1, (h.pr hs).2.lt hp⟩
          have hFo : E.nf ≠ 0 → Follows E.n E.f c pm L j F := fun hne => by
            by_cases hc0 : c = 0
            · exact ⟨hF.first, hF.few, hF.low, hF.high, hF.rise, fun h => absurd hc0 h⟩
            · have hs : seen ≠ 0 := by rw [h.sn, if_neg hne]; exact hc0
              rw [(h.pr hs).1]; exact hF
          have hsn := h.sn
          have hcl := h.cl
          have hut := h.ut
          have hcc : c ≤ 100000 := h.cb.le
          have hfew : Few (c + 1) j F := h.cb.next hF hE.hn hE.hf
          have gbp : E.bprev < g := fg.1
          have gnv : g ≠ R.gv := gne R.gv (by simp [ROwn])
          clear h hb4 hg4 ra4 RSr STr CSr PRr Fr hrow hch zr hBr hBF fg gne ggF hG
          gi_wp2
          gi_loopw [47] (fun i wx => ∃ (v : Nat) (Y : Nat → Int), v ≤ E.n ∧ i = .int .i64 v ∧ LP R E B W2 c j g gs gt v sa ta sc F T Y wx ∧ LM R E gt c j v seen calls lv pa pm pc gp F L U T Y wx) (fun i _ => E.n - (intOf i).toNat)
          case atStart => exact ⟨0, T, Nat.zero_le _, rfl, LP0, LM0⟩
          case round =>
            clear LP0 LM0
            obtain ⟨v, Y, hv, rfl, P, M⟩ := hrel
            by_cases hlt : v < E.n
            · have x0 := cells_at (i := 0) (v := .slice R.ia E.n R.ic) P.rs.s rfl
              have x1 := cells_at (i := 1) (v := .slice E.fa E.fl E.fc) P.rs.s rfl
              have x2 := cells_at (i := 2) (v := .nilIface) P.rs.s rfl
              have hfm : E.fl ≤ maxLen := by have := hE.hfl; unfold maxLen; omega
              have zB : B ≤ wr.heap.size := by have := P.ch.size; have := hE.o0; have := hE.o1; have := hE.o2; have := hE.o3; have := hE.o4; have := hE.o5; have := hE.o6; have := hE.o7; have := hE.o8; have := hE.o9; have := hE.o10; omega
              have hvz : (v : Int) < (E.n : Int) := by omega
              gi_wp2
              refine ⟨trivial, fun h => by simp [Fence.wide] at h, ?_⟩
              refine (CallsIn.inRound l (callsIn_wide.2 (faulty_calls (.slice R.ia E.n R.ic) .nilIface E.fa E.fl E.fc E.n E.Fa v wr hlt hfm M.marks))).mono ?_
              rintro e w6 ⟨rfl, hb6⟩
              have P6 := P.below hb6 zB
              have M6 := M.below hE hb6
              clear x0 x1 x2 P M hb6 zB
              cases hFv : E.Fa v
              · have hnn : 0 < E.n := by omega
                have hne : E.nf ≠ 0 := by
                  rw [hnf]
                  have e1 := nfB_free hFv
                  have e2 := nfB_mono (Fa := E.Fa) (show v + 1 ≤ E.n by omega)
                  omega
                have hsc : seen = c := by rw [hsn, if_neg hne]
                have y0 := cells_at (i := 0) (v := .func (.func 12) #[] (caps E)) P6.rs.nx rfl
                have y1 := cells_at (i := 0) (v := .int .i64 c) P6.rs.la rfl
                have y2 := cells_at (i := 0) (v := .slice (some ⟨R.gF, 0, none⟩) E.n E.n) P6.rs.bF rfl
                obtain ⟨eta, _⟩ := P6.ra.row hnn
                subst eta
                have HK : Hid (Calls Yba.prog 12 (#[.pointer (some ⟨R.br, 0, none⟩), .int .i64 c, .slice (some ⟨g, 0, none⟩) j j, .slice (some ⟨R.gF, 0, none⟩) E.n E.n, .int .i64 v] ++ caps E) w6 fun e w' =>
                    ∃ z : Int, e = .returned (.int .i64 z) ∧ LP R E B W2 c j g gs gt v sa (some ⟨gt, 0, none⟩) sc F T Y w' ∧ LM R E gt c j (v + 1) seen calls lv pa pm pc gp F L U T (upd Y v z) w') :=
                  next_calls R E B W2 w6 c j g gs gt v seen calls lv pa pm pc gp m sa (some ⟨gt, 0, none⟩) sc F L U T Y hE hR hnn P6 M6 gbp (gsb hnn) hgt2 (fun hs hp => (gpb hs hp).1) hsc hcl hut (hFo hne) (by omega) hcc hlt hFv bp2
                gi_wp2
                refine ⟨trivial, fun h => by simp [Fence.wide] at h, ?_⟩
                refine (CallsIn.inRound l (callsIn_wide.2 HK.out)).mono ?_
                clear HK y0 y1 y2 M6
                rintro e w7 ⟨z, rfl, P7, M7⟩
                have r7 := (P7.ra.row hnn).2
                have c7 := r7.cell hlt
                have f7 := r7.frozen v
                gi_wp2
                go_roundw
                case rel => exact ⟨v + 1, upd Y v z, by omega, by go_num, P7.store hE hR hnn hgt2 own2 g2l (gsl hnn) bp2 z, M7.store hE (by omega) (fun hs hp => by have := (gpb hs hp).2; omega)⟩
                case measure => simp [intOf]; omega
              · gi_wp2
                go_roundw
                case rel => exact ⟨v + 1, Y, by omega, by go_num, ⟨P6.rs, P6.st, P6.ro, P6.rg, P6.ra, P6.ch⟩, M6.mark hFv⟩
                case measure => simp [intOf]; omega
            · obtain rfl : v = E.n := by omega
              obtain ⟨b1, b2, hgv⟩ := P.rs.gv
              have hfm : E.fl ≤ maxLen := by have := hE.hfl; unfold maxLen; omega
              have q1 := hR.p1; have q2 := hR.p2; have q3 := hR.p3; have q4 := hR.p4; have q5 := hR.p5; have q6 := hR.p6; have q7 := hR.p7; have q8 := hR.p8; have q9 := hR.p9
              have gng : g ≠ R.gv := gnv
              have x0 := cells_at (i := 0) (v := .pointer (some ⟨R.gv, 0, none⟩)) P.rs.inv rfl
              have x1 := cells_at (i := 3) (v := .slice sa E.n sc) P.rs.r rfl
              have fag : ∀ b o, E.fa = some ⟨b, o, none⟩ → b ≠ R.gv := fun b o e => by have := hE.ofa b o e; have := hE.o4; have := hE.o5; have := hE.o6; have := hE.o7; have := hE.o8; have := hE.o9; have := hE.o10; omega
              gi_wp2
              refine ⟨trivial, fun h => by simp [Fence.wide] at h, ?_⟩
              refine (CallsIn.inRound l (callsIn_wide.2 (iter_calls R.gv g j j E.n (.slice R.ia E.n R.ic) .nilIface E.fa E.fl E.fc E.Fa R.z b1 b2 F sa ta sc tc gs gt T Y wr (by omega) (by omega) hfm M.marks fag gng hgv P.rg hF.low hF.high P.st P.ra))).mono ?_
              rintro e w8 ⟨⟨y, rfl⟩, hC8, V8⟩
              have R8 := (hC8.same R.br (blk_lt P.rs.r) (by (try dsimp only); omega)).trans P.rs.r
              have L8 := (hC8.same R.blab (blk_lt P.rs.la) (by (try dsimp only); omega)).trans P.rs.la
              clear x0 x1
              have y0 := cells_at (i := 3) (v := .slice sa E.n sc) R8 rfl
              have y1 := frozen_at R8 3
              have y2 := cells_at (i := 0) (v := .int .i64 c) L8 rfl
              have y3 := frozen_at L8 0
              have nbl : ¬ R.blab = R.br := by omega
              have nlb : ¬ R.br = R.blab := by omega
              gi_wp2
              have R9 : ((w8.setCell ⟨R.br, 3, none⟩ (.slice ta E.n tc)).setCell ⟨R.blab, 0, none⟩ (.int .i64 ((c : Int) + 1))).heap[R.br]? = some (.cells (rcells (.slice R.ia E.n R.ic) (.slice E.fa E.fl E.fc) .nilIface (.slice ta E.n tc)) 57) := (Below.heap_setCell _ _ _ _ (by (try dsimp only); omega)).trans (blk_set R8 3 _)
              have L9 : ((w8.setCell ⟨R.br, 3, none⟩ (.slice ta E.n tc)).setCell ⟨R.blab, 0, none⟩ (.int .i64 ((c : Int) + 1))).heap[R.blab]? = some (.cells #[.int .i64 ((c + 1 : Nat) : Int)] 3) := by
                have e := blk_set (i := 0) (v := .int .i64 ((c : Int) + 1)) ((Below.heap_setCell w8 ⟨R.br, 3, none⟩ (.slice ta E.n tc) R.blab (by (try dsimp only); omega)).trans L8)
                simpa using e
              obtain ⟨v1, v2, hv8⟩ := V8
              have V9 := (Below.heap_setCell (w8.setCell ⟨R.br, 3, none⟩ (.slice ta E.n tc)) ⟨R.blab, 0, none⟩ (.int .i64 ((c : Int) + 1)) R.gv (by (try dsimp only); omega)).trans ((Below.heap_setCell w8 ⟨R.br, 3, none⟩ (.slice ta E.n tc) R.gv (by (try dsimp only); omega)).trans hv8)
              have hBs : B ≤ R.bs := by have := hE.o0; have := hE.o1; have := hE.o2; have := hE.o3; have := hE.o4; have := hE.o5; have := hE.o6; have := hE.o7; have := hE.o8; have := hE.o9; have := hE.o10; omega
              have C9 : Chg B (fun b => b = R.gv ∨ b = R.br ∨ b = R.blab) wr ((w8.setCell ⟨R.br, 3, none⟩ (.slice ta E.n tc)).setCell ⟨R.blab, 0, none⟩ (.int .i64 ((c : Int) + 1))) :=
                ((((hC8.lower (by omega)).mono (fun b hb => .inl hb)).setCell (p := ⟨R.br, 3, none⟩) (by (try dsimp only); omega) (.inl (.inr (.inl rfl))) _).setCell (p := ⟨R.blab, 0, none⟩) (by (try dsimp only); omega) (.inl (.inr (.inr rfl))) _)
              refine ⟨trivial, fun h => by simp [Fence.wide] at h, ?_⟩
              refine (CallsIn.inRound l (callsIn_wide.2 (endflood_calls R.br _ _ _ (.slice ta E.n tc) _ R9))).mono ?_
              rintro e w10 ⟨⟨y', rfl⟩, hC10, R10⟩
              have V10 := (hC10.same R.gv (blk_lt V9) (by (try dsimp only); omega)).trans V9
              have L10 := (hC10.same R.blab (blk_lt L9) (by (try dsimp only); omega)).trans L9
              have C10 := C9.trans ((hC10.lower (B' := B) (by omega)).mono (fun b hb => .inr (.inl hb)))
              have fin := iter_end hE hR hnf Hh.out P M C10 ⟨v1, v2, V10⟩ R10 L10 hgt2 (fun b hb => Nat.lt_of_lt_of_le (hXb b hb) hz2) hfew
              clear y0 y1 y2 y3 R8 L8 V9 R9 L9 C9 hC8 hC10 hv8 R10 V10 L10 C10
              gi_wp2
end Go.Proofs.Ybulkyva
