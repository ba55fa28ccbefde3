import Derived.Test.YbulkyvaBase
namespace Go.Proofs.Ybulkyva
open Go.RowKit
set_option linter.unusedVariables false

/-- Does some node of the first n that is not marked hold x? -/
def heldB (Z : Nat → Int) (Fa : Nat → Bool) (x : Int) : Nat → Bool
  | 0 => false
  | n + 1 => heldB Z Fa x n || (!Fa n && Z n == x)

/-- Two bools in a row. -/
def two (p q : Bool) (i : Nat) : Value := if i = 0 then .bool p else .bool q
theorem two_set0 (p q b : Bool) : (fun j => if j = 0 then Value.bool b else two p q j) = two b q := by
  funext j; unfold two; by_cases h : j = 0 <;> simp [h]
theorem two_set1 {w : World} {g t : Nat} {p q b : Bool} (h : w.rowIs g t 2 (fun j => if j = 1 then Value.bool b else two p q j)) : w.rowIs g t 2 (two p b) :=
  h.congr (fun i hi => by match i, hi with | 0, _ => rfl | 1, _ => rfl)

/-- The blocks of held's run. -/
structure HL (B : Nat) (s0 s1 s2 : Value) (p q : Bool) (W : World) : Prop where
  c0 : W.cell? ⟨B, 0, none⟩ = some s0
  c1 : W.cell? ⟨B, 1, none⟩ = some s1
  c2 : W.cell? ⟨B, 2, none⟩ = some s2
  r : W.rowIs (B + 1) 66 2 (two false false)
  h : W.rowIs (B + 1 + 1) 66 2 (two p q)

theorem HL.below {B : Nat} {s0 s1 s2 : Value} {p q : Bool} {W W' : World} (h : HL B s0 s1 s2 p q W) (hb : Below W.heap.size W W') : HL B s0 s1 s2 p q W' :=
  have z := h.h.lt
  ⟨(hb.cell (p := ⟨B, 0, none⟩) (by show B < _; omega)).trans h.c0, (hb.cell (p := ⟨B, 1, none⟩) (by show B < _; omega)).trans h.c1, (hb.cell (p := ⟨B, 2, none⟩) (by show B < _; omega)).trans h.c2,
    h.r.of_block (hb.block _ (by omega)), h.h.of_block (hb.block _ (by omega))⟩

theorem HL.other {B : Nat} {s0 s1 s2 : Value} {p q p' q' : Bool} {W : World} {a : Addr} {v : Value} (h : HL B s0 s1 s2 p q W) (ha : a.block = B + 1 + 1) (hh : (W.setCell a v).rowIs (B + 1 + 1) 66 2 (two p' q')) : HL B s0 s1 s2 p' q' (W.setCell a v) :=
  ⟨(World.cell?_of_block (w := W) (Below.heap_setCell _ _ _ _ (by show B ≠ _; omega))).trans h.c0, (World.cell?_of_block (w := W) (Below.heap_setCell _ _ _ _ (by show B ≠ _; omega))).trans h.c1,
    (World.cell?_of_block (w := W) (Below.heap_setCell _ _ _ _ (by show B ≠ _; omega))).trans h.c2, h.r.setOther (by omega) _, hh⟩

theorem HL.start (w : World) (s0 s1 s2 : Value) : HL w.heap.size s0 s1 s2 false false (((w.alloc (.cells #[s0, s1, s2] 51)).alloc (.cells #[.bool false, .bool false] 66)).alloc (.cells #[.bool false, .bool false] 66)) := by
  have a := World.rowIs_alloc w #[s0, s1, s2] 51 (fun i => if i = 0 then s0 else if i = 1 then s1 else s2) (fun i hi => by
    match i, hi with
    | 0, _ => rfl
    | 1, _ => rfl
    | 2, _ => rfl)
  have b := World.rowIs_alloc (w.alloc (.cells #[s0, s1, s2] 51)) #[.bool false, .bool false] 66 (two false false) (fun i hi => by
    match i, hi with
    | 0, _ => rfl
    | 1, _ => rfl)
  have c := World.rowIs_alloc ((w.alloc (.cells #[s0, s1, s2] 51)).alloc (.cells #[.bool false, .bool false] 66)) #[.bool false, .bool false] 66 (two false false) (fun i hi => by
    match i, hi with
    | 0, _ => rfl
    | 1, _ => rfl)
  simp only [World.size_alloc] at b c
  have a' := (a.alloc (.cells #[.bool false, .bool false] 66)).alloc (.cells #[.bool false, .bool false] 66)
  exact ⟨a'.cell (i := 0) (by simp), a'.cell (i := 1) (by simp), a'.cell (i := 2) (by simp), b.alloc _, c⟩

theorem below_three (w : World) (o o' o'' : Obj) : Below w.heap.size w (((w.alloc o).alloc o').alloc o'') := (((Below.refl _ _).alloc (Nat.le_refl _) o).alloc (by simp) o').alloc (by simp; omega) o''

set_option maxHeartbeats 2000000 in
set_option maxRecDepth 100000 in
theorem held_some (inp st : Value) (fa : Option Addr) (fl fc n : Nat) (Fa : Nat → Bool) (b off cap : Nat) (Z : Nat → Int) (w : World) (hf : fl ≤ maxLen) (hn : n ≤ 1024) (h : Marks w fa fl fc n Fa)
    (hb : b < w.heap.size) (hc : ∀ i, i < n → w.cell? ⟨b, off + i, none⟩ = some (.int .i64 (Z i))) :
    Calls Yba.prog 18 #[.agg #[inp, .slice fa fl fc, st], .slice (some ⟨b, off, none⟩) n cap] w fun e w' =>
      e = .returned (.agg #[.bool (heldB Z Fa 0 n), .bool (heldB Z Fa 1 n)]) ∧ Below w.heap.size w w' := by
  go_enter Yba.func18, Yba.ntmps18
  go_wp2
  go_loopw [10] (fun i wr => ∃ k : Nat, k ≤ n ∧ i = .int .i64 k ∧ HL w.heap.size inp (.slice fa fl fc) st (heldB Z Fa 0 k) (heldB Z Fa 1 k) wr ∧ Below w.heap.size w wr) (fun i _ => n - (intOf i).toNat)
  case atStart => exact ⟨0, Nat.zero_le _, rfl, HL.start _ _ _ _, below_three _ _ _ _⟩
  case round =>
    obtain ⟨k, hk, rfl, H, hnx⟩ := hrel
    by_cases hlt : k < n
    · have c := (hnx.cell (p := ⟨b, off + k, none⟩) hb).trans (hc k hlt)
      have x0 := H.c0
      have x1 := H.c1
      have x2 := H.c2
      have hM := h.below hnx
      cases hFa : Fa k
      · by_cases h0 : Z k = 0
        · have e0 : (Z k == 0) = true := by simp [h0]
          have HZ : Hid (heldB Z Fa 0 (k + 1) = true ∧ heldB Z Fa 1 (k + 1) = heldB Z Fa 1 k) := by constructor <;> simp [heldB, hFa, h0]
          rw [h0] at c
          clear h0 e0
          go_wp2_with (go_at_call 26; refine (faulty_calls inp st fa fl fc n Fa k _ hlt hf hM).mono ?_; rintro e w2 ⟨rfl, hb2⟩; have H2 := H.below hb2; have y0 := H2.h.cell (i := 0) (by omega); have f0 := H2.h.frozen 0)
          go_roundw
          case rel => exact ⟨k + 1, by omega, by go_num, by rw [HZ.out.1, HZ.out.2]; exact H2.other rfl (by rw [← two_set0]; exact H2.h.set 0 _), (hnx.trans (hb2.mono hnx.size)).setCell (p := ⟨w.heap.size + 1 + 1, 0, none⟩) (by show _ ≤ w.heap.size + 1 + 1; omega) _⟩
          case measure => simp [intOf]; omega
        · by_cases h1 : Z k = 1
          · have HZ : Hid (heldB Z Fa 0 (k + 1) = heldB Z Fa 0 k ∧ heldB Z Fa 1 (k + 1) = true) := by constructor <;> simp [heldB, hFa, h1]
            rw [h1] at c
            clear h1 h0
            go_wp2_with (go_at_call 26; refine (faulty_calls inp st fa fl fc n Fa k _ hlt hf hM).mono ?_; rintro e w2 ⟨rfl, hb2⟩; have H2 := H.below hb2; have y0 := H2.h.cell (i := 1) (by omega); have f0 := H2.h.frozen 1)
            go_roundw
            case rel => exact ⟨k + 1, by omega, by go_num, by rw [HZ.out.1, HZ.out.2]; exact H2.other rfl (two_set1 (H2.h.set 1 _)), (hnx.trans (hb2.mono hnx.size)).setCell (p := ⟨w.heap.size + 1 + 1, 1, none⟩) (by show _ ≤ w.heap.size + 1 + 1; omega) _⟩
            case measure => simp [intOf]; omega
          · have e0 : (Z k == 0) = false := by simp [h0]
            have e1 : (Z k == 1) = false := by simp [h1]
            have HZ : Hid (heldB Z Fa 0 (k + 1) = heldB Z Fa 0 k ∧ heldB Z Fa 1 (k + 1) = heldB Z Fa 1 k) := by constructor <;> simp [heldB, h0, h1]
            clear h0 h1
            go_wp2_with (go_at_call 26; refine (faulty_calls inp st fa fl fc n Fa k _ hlt hf hM).mono ?_; rintro e w2 ⟨rfl, hb2⟩; have H2 := H.below hb2)
            go_roundw
            case rel => exact ⟨k + 1, by omega, by go_num, by rw [HZ.out.1, HZ.out.2]; exact H2, hnx.trans (hb2.mono hnx.size)⟩
            case measure => simp [intOf]; omega
      · have HZ : Hid (heldB Z Fa 0 (k + 1) = heldB Z Fa 0 k ∧ heldB Z Fa 1 (k + 1) = heldB Z Fa 1 k) := by constructor <;> simp [heldB, hFa]
        go_wp2_with (go_at_call 26; refine (faulty_calls inp st fa fl fc n Fa k _ hlt hf hM).mono ?_; rintro e w2 ⟨rfl, hb2⟩; have H2 := H.below hb2)
        go_roundw
        case rel => exact ⟨k + 1, by omega, by go_num, by rw [HZ.out.1, HZ.out.2]; exact H2, hnx.trans (hb2.mono hnx.size)⟩
        case measure => simp [intOf]; omega
    · obtain rfl : k = n := by omega
      have y0 := H.h.cell (i := 0) (by omega)
      have y1 := H.h.cell (i := 1) (by omega)
      have r0 := H.r.cell (i := 0) (by omega)
      have r1 := H.r.cell (i := 1) (by omega)
      have f0 := H.r.frozen 0
      have f1 := H.r.frozen 1
      simp only [two, if_true, if_false, Nat.one_ne_zero] at y0 y1 r0 r1
      go_wp2
      refine bodyPost_ret (v := .agg #[.bool (heldB Z Fa 0 k), .bool (heldB Z Fa 1 k)]) (by simp [results, Yba.results18, go_sem, r0, r1]) rfl ⟨rfl, ?_⟩
      exact (hnx.setCell (p := ⟨w.heap.size + 1, 0, none⟩) (by show _ ≤ w.heap.size + 1; omega) _).setCell (p := ⟨w.heap.size + 1, 1, none⟩) (by show _ ≤ w.heap.size + 1; omega) _

set_option maxHeartbeats 1000000 in
set_option maxRecDepth 100000 in
theorem held_none (inp st : Value) (fa : Option Addr) (fl fc : Nat) (Fa : Nat → Bool) (a : Option Addr) (n cap : Nat) (Z : Nat → Int) (w : World) (hn : n ≤ 0) :
    Calls Yba.prog 18 #[.agg #[inp, .slice fa fl fc, st], .slice a n cap] w fun e w' =>
      e = .returned (.agg #[.bool (heldB Z Fa 0 n), .bool (heldB Z Fa 1 n)]) ∧ Below w.heap.size w w' := by
  have e0 : heldB Z Fa 0 n = false := by obtain rfl : n = 0 := by omega
                                         rfl
  have e1 : heldB Z Fa 1 n = false := by obtain rfl : n = 0 := by omega
                                         rfl
  rw [e0, e1]
  clear e0 e1
  go_enter Yba.func18, Yba.ntmps18
  go_wp2
  refine wp_loop_rounds 1 ?_
  rw [rounds_succ]
  go_wp2
  refine bodyPost_ret (v := .agg #[.bool false, .bool false]) (by simp [results, Yba.results18, go_sem]) rfl ⟨rfl, ?_⟩
  exact below_three _ _ _ _

set_option maxHeartbeats 2000000 in
set_option maxRecDepth 100000 in
theorem model_some (fa : Option Addr) (fl fc n : Nat) (Fa : Nat → Bool) (b off cap : Nat) (Z : Nat → Int) (w : World) (hf : fl ≤ maxLen) (hn : n ≤ 1024) (h : Marks w fa fl fc n Fa)
    (hb : b < w.heap.size) (hc : ∀ i, i < n → w.cell? ⟨b, off + i, none⟩ = some (.int .i64 (Z i))) :
    Calls Yba.prog 19 #[.slice (some ⟨b, off, none⟩) n cap, .slice fa fl fc] w fun e w' =>
      e = .returned (.agg #[.bool (heldB Z Fa 0 n), .bool (heldB Z Fa 1 n)]) ∧ Below w.heap.size w w' := by
  have hnil := fun (w : World) (a : Option Addr) (n c : Nat) => run_neq_slice_nil_any (P := Yba.prog) w 44 4 a n c 0 0 Yba.underlying44
  unfold maxLen at hf
  rcases h with ⟨rfl, rfl, rfl, hno⟩ | ⟨bf, o, rfl, hnl, hl, hcf⟩
  · go_enter Yba.func19, Yba.ntmps19
    go_wp2
    go_loopw [6] (fun i wr => ∃ k : Nat, k ≤ n ∧ i = .int .i64 k ∧ wr = (w.alloc (.cells #[.bool false, .bool false] 66)).alloc (.cells #[.bool (heldB Z Fa 0 k), .bool (heldB Z Fa 1 k)] 66)) (fun i _ => n - (intOf i).toNat)
    case atStart => exact ⟨0, Nat.zero_le _, rfl, rfl⟩
    case round =>
      obtain ⟨k, hk, rfl, rfl⟩ := hrel
      by_cases hlt : k < n
      · have c := hc k hlt
        have nb : ¬ b = w.heap.size := by omega
        have nb' : ¬ b = w.heap.size + 1 := by omega
        have hno' := hno k
        cases hFa : Fa k
        · by_cases h0 : Z k = 0
          · have e0 : (Z k == 0) = true := by simp [h0]
            have HZ : Hid (heldB Z Fa 0 (k + 1) = true ∧ heldB Z Fa 1 (k + 1) = heldB Z Fa 1 k) := by constructor <;> simp [heldB, hFa, h0]
            clear h0
            go_wp2
            go_roundw
            case rel => exact ⟨k + 1, by omega, by go_num, by rw [HZ.out.1, HZ.out.2]⟩
            case measure => simp [intOf]; omega
          · have e0 : (Z k == 0) = false := by simp [h0]
            by_cases h1 : Z k = 1
            · have e1 : (Z k == 1) = true := by simp [h1]
              have HZ : Hid (heldB Z Fa 0 (k + 1) = heldB Z Fa 0 k ∧ heldB Z Fa 1 (k + 1) = true) := by constructor <;> simp [heldB, hFa, h1]
              clear h1 h0
              go_wp2
              go_roundw
              case rel => exact ⟨k + 1, by omega, by go_num, by rw [HZ.out.1, HZ.out.2]⟩
              case measure => simp [intOf]; omega
            · have e1 : (Z k == 1) = false := by simp [h1]
              have HZ : Hid (heldB Z Fa 0 (k + 1) = heldB Z Fa 0 k ∧ heldB Z Fa 1 (k + 1) = heldB Z Fa 1 k) := by constructor <;> simp [heldB, h0, h1]
              clear h0 h1
              go_wp2
              go_roundw
              case rel => exact ⟨k + 1, by omega, by go_num, by rw [HZ.out.1, HZ.out.2]⟩
              case measure => simp [intOf]; omega
        · rw [hno'] at hFa; cases hFa
      · obtain rfl : k = n := by omega
        go_wp2
        refine bodyPost_ret (v := .agg #[.bool (heldB Z Fa 0 k), .bool (heldB Z Fa 1 k)]) (by simp [results, Yba.results19, go_sem]) rfl ⟨rfl, ?_⟩
        exact (below_one _ _).alloc (by simp) _
  · go_enter Yba.func19, Yba.ntmps19
    go_wp2
    go_loopw [6] (fun i wr => ∃ k : Nat, k ≤ n ∧ i = .int .i64 k ∧ wr = (w.alloc (.cells #[.bool false, .bool false] 66)).alloc (.cells #[.bool (heldB Z Fa 0 k), .bool (heldB Z Fa 1 k)] 66)) (fun i _ => n - (intOf i).toNat)
    case atStart => exact ⟨0, Nat.zero_le _, rfl, rfl⟩
    case round =>
      obtain ⟨k, hk, rfl, rfl⟩ := hrel
      by_cases hlt : k < n
      · have c := hc k hlt
        have nb : ¬ b = w.heap.size := by omega
        have nb' : ¬ b = w.heap.size + 1 := by omega
        have cf := hcf k hlt
        have nf : ¬ bf = w.heap.size := by omega
        have nf' : ¬ bf = w.heap.size + 1 := by omega
        cases hFa : Fa k
        · by_cases h0 : Z k = 0
          · have e0 : (Z k == 0) = true := by simp [h0]
            have HZ : Hid (heldB Z Fa 0 (k + 1) = true ∧ heldB Z Fa 1 (k + 1) = heldB Z Fa 1 k) := by constructor <;> simp [heldB, hFa, h0]
            clear h0
            go_wp2
            go_roundw
            case rel => exact ⟨k + 1, by omega, by go_num, by rw [HZ.out.1, HZ.out.2]⟩
            case measure => simp [intOf]; omega
          · have e0 : (Z k == 0) = false := by simp [h0]
            by_cases h1 : Z k = 1
            · have e1 : (Z k == 1) = true := by simp [h1]
              have HZ : Hid (heldB Z Fa 0 (k + 1) = heldB Z Fa 0 k ∧ heldB Z Fa 1 (k + 1) = true) := by constructor <;> simp [heldB, hFa, h1]
              clear h1 h0
              go_wp2
              go_roundw
              case rel => exact ⟨k + 1, by omega, by go_num, by rw [HZ.out.1, HZ.out.2]⟩
              case measure => simp [intOf]; omega
            · have e1 : (Z k == 1) = false := by simp [h1]
              have HZ : Hid (heldB Z Fa 0 (k + 1) = heldB Z Fa 0 k ∧ heldB Z Fa 1 (k + 1) = heldB Z Fa 1 k) := by constructor <;> simp [heldB, h0, h1]
              clear h0 h1
              go_wp2
              go_roundw
              case rel => exact ⟨k + 1, by omega, by go_num, by rw [HZ.out.1, HZ.out.2]⟩
              case measure => simp [intOf]; omega
        · have HZ : Hid (heldB Z Fa 0 (k + 1) = heldB Z Fa 0 k ∧ heldB Z Fa 1 (k + 1) = heldB Z Fa 1 k) := by constructor <;> simp [heldB, hFa]
          go_wp2
          go_roundw
          case rel => exact ⟨k + 1, by omega, by go_num, by rw [HZ.out.1, HZ.out.2]⟩
          case measure => simp [intOf]; omega
      · obtain rfl : k = n := by omega
        go_wp2
        refine bodyPost_ret (v := .agg #[.bool (heldB Z Fa 0 k), .bool (heldB Z Fa 1 k)]) (by simp [results, Yba.results19, go_sem]) rfl ⟨rfl, ?_⟩
        exact (below_one _ _).alloc (by simp) _

set_option maxHeartbeats 1000000 in
set_option maxRecDepth 100000 in
theorem model_none (fv : Value) (Fa : Nat → Bool) (a : Option Addr) (n cap : Nat) (Z : Nat → Int) (w : World) (hn : n ≤ 0) :
    Calls Yba.prog 19 #[.slice a n cap, fv] w fun e w' =>
      e = .returned (.agg #[.bool (heldB Z Fa 0 n), .bool (heldB Z Fa 1 n)]) ∧ Below w.heap.size w w' := by
  have e0 : heldB Z Fa 0 n = false := by obtain rfl : n = 0 := by omega
                                         rfl
  have e1 : heldB Z Fa 1 n = false := by obtain rfl : n = 0 := by omega
                                         rfl
  rw [e0, e1]
  clear e0 e1
  go_enter Yba.func19, Yba.ntmps19
  go_wp2
  refine wp_loop_rounds 1 ?_
  rw [rounds_succ]
  go_wp2
  refine bodyPost_ret (v := .agg #[.bool false, .bool false]) (by simp [results, Yba.results19, go_sem]) rfl ⟨rfl, ?_⟩
  exact (below_one _ _).alloc (by simp) _
end Go.Proofs.Ybulkyva
