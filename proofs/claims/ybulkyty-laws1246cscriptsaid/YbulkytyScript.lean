import Derived.Test.YbulkytyNew
namespace Go.Proofs.Ybulkyty
open Go.RowKit
set_option linter.unusedVariables false

/-- The script that came in: of each call whether it asks a number, and its text. -/
structure IsOps (w : World) (b off len : Nat) (N : Nat → Bool) (A : Nat → Option Addr) (L C : Nat → Nat) (Z : Nat → List Int) : Prop where
  n : ∀ i, i < len → w.cell? ⟨b, off + i * 2, none⟩ = some (.bool (N i))
  t : ∀ i, i < len → w.cell? ⟨b, off + i * 2 + 1, none⟩ = some (.slice (A i) (L i) (C i))
  z : ∀ i, i < len → IsRow .u8 w (A i) (L i) (C i) (Z i)
  hb : b < w.heap.size

/-- The reader in block R and the model in block M tell the same of every slot. -/
structure SL (w : World) (R M : Nat) (st : Nat → Option (Bool × ByteArray)) (W : World) : Prop where
  old : Below w.heap.size w W
  r : W.rowIs R 31 1028 (rf st)
  m : W.rowIs M 34 3072 (mf st)
  hR : w.heap.size ≤ R
  hM : w.heap.size ≤ M
  ne : R ≠ M

theorem SL.alloc {w : World} {R M : Nat} {st : Nat → Option (Bool × ByteArray)} {W : World} (h : SL w R M st W) (o : Obj) : SL w R M st (W.alloc o) :=
  ⟨h.old.alloc h.old.size o, h.r.alloc o, h.m.alloc o, h.hR, h.hM, h.ne⟩

theorem rf_nil (w : World) : (w.alloc (.cells rZero 31)).rowIs w.heap.size 31 1028 (rf (fun _ => none)) := by
  have := World.rowIs_alloc w rZero 31 (rf (fun _ => none)) (fun i hi => by have h1 : i < 1028 := (by simpa [rZero] using hi); show ((List.range 1028).map (rf (fun _ => none))).toArray[i]? = _; simp [h1])
  have e : rZero.size = 1028 := by simp [rZero]
  rw [e] at this
  exact this
theorem mf_nil (w : World) : (w.alloc (.cells mZero 34)).rowIs w.heap.size 34 3072 (mf (fun _ => none)) := by
  have := World.rowIs_alloc w mZero 34 (mf (fun _ => none)) (fun i hi => by have h1 : i < 3072 := (by simpa [mZero] using hi); show ((List.range 3072).map (mf (fun _ => none))).toArray[i]? = _; simp [h1])
  have e : mZero.size = 3072 := by simp [mZero]
  rw [e] at this
  exact this

theorem SL.start (w : World) : SL w w.heap.size (w.heap.size + 1) (fun _ => none) ((w.alloc (.cells rZero 31)).alloc (.cells mZero 34)) := by
  refine ⟨((Below.refl _ _).alloc (Nat.le_refl _) _).alloc (by simp) _, (rf_nil w).alloc _, ?_, Nat.le_refl _, by omega, by omega⟩
  have := mf_nil (w.alloc (.cells rZero 31))
  simpa using this

theorem mf_set (st : Nat → Option (Bool × ByteArray)) (k : Nat) (n : Bool) (s : ByteArray) :
    (fun j => if j = k * 3 + 2 then Value.string s else if j = k * 3 + 1 then Value.bool n else if j = k * 3 then Value.bool true else mf st j) = mf (upd st k (n, s)) := by
  funext j
  unfold mf upd
  by_cases h : j / 3 = k
  · rw [if_pos h]
    have : j % 3 = 0 ∨ j % 3 = 1 ∨ j % 3 = 2 := by omega
    rcases this with e | e | e
    · rw [e, if_neg (by omega), if_neg (by omega), if_pos (by omega)]; rfl
    · rw [e, if_neg (by omega), if_pos (by omega)]; rfl
    · rw [e, if_pos (by omega)]; rfl
  · rw [if_neg h, if_neg (by omega), if_neg (by omega), if_neg (by omega)]

theorem SL.step {w : World} {R M : Nat} {st : Nat → Option (Bool × ByteArray)} {W W' : World} (h : SL w R M st W) (k : Nat) (n : Bool) (s : ByteArray) (ho : Out R st k (n, s) W W') :
    SL w R M (upd st k (n, s)) (((W'.setCell ⟨M, k * 3, none⟩ (.bool true)).setCell ⟨M, k * 3 + 1, none⟩ (.bool n)).setCell ⟨M, k * 3 + 2, none⟩ (.string s)) := by
  obtain ⟨h1, h2, h3⟩ := ho
  have hm' := h.m.of_block (h2.block M h.m.lt (by have := h.ne; simp; omega))
  refine ⟨?_, ((h1.setOther h.ne _).setOther h.ne _).setOther h.ne _, ?_, h.hR, h.hM, h.ne⟩
  · have := h.old.grown h2 h.old.size (fun x hx => by simp at hx; have := h.hR; omega)
    exact ((this.setCell (p := ⟨M, k * 3, none⟩) h.hM _).setCell (p := ⟨M, k * 3 + 1, none⟩) h.hM _).setCell (p := ⟨M, k * 3 + 2, none⟩) h.hM _
  · rw [← mf_set]
    exact ((hm'.set (k * 3) _).set (k * 3 + 1) _).set (k * 3 + 2) _

theorem neq_same {P : Program} (w : World) {t tx : TypeId} {ms : Array (String × TypeId)} (s : ByteArray)
    (ht : P.underlying t = some (.interface ms)) (hc : (P.info? tx).map (·.comparable) = some true) (hx : P.underlying tx = some .string) :
    (binOp .neq t (.iface tx (.string s)) (.iface tx (.string s))).run P w = .ok (.bool false) w := by
  cases hi : P.info? tx with
  | none => simp [hi] at hc
  | some i =>
    have hcc : i.comparable = true := by simpa [hi] using hc
    have h : ∀ d : Nat, (Op.equalIn (d + 2) t (.iface tx (.string s)) (.iface tx (.string s))).run P w = .ok true w := fun d => by
      simp [Op.equalIn, run_underlying ht, run_underlying hx, typeInfo, hi, hcc]
      cases s with | mk d => show (d == d) = true; simp
    simp only [binOp]
    simp [Op.equal, Op.maxDepth, h 9998]
theorem neq36 (s : ByteArray) (w : World) : (binOp .neq 20 (.iface 36 (.string s)) (.iface 36 (.string s))).run Yba.prog w = .ok (.bool false) w := neq_same w s Yba.underlying20 (by kernel_rfl) (by kernel_rfl)
theorem neq9 (s : ByteArray) (w : World) : (binOp .neq 20 (.iface 9 (.string s)) (.iface 9 (.string s))).run Yba.prog w = .ok (.bool false) w := neq_same w s Yba.underlying20 (by kernel_rfl) (by kernel_rfl)
end Go.Proofs.Ybulkyty
