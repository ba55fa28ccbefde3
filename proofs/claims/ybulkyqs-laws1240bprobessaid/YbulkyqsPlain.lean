import Derived.WalkKit
namespace Go.Proofs.Ybulkyqs
open Go.RowKit

/-! ### Plain laws: no Go in sight -/

/-- The first j bytes of g as a little-endian number. -/
def acc (g : Nat → Nat) : Nat → Nat
  | 0 => 0
  | j + 1 => acc g j + g j * 2 ^ (8 * j)

theorem acc_lt (g : Nat → Nat) (h : ∀ t, g t < 256) (j : Nat) : acc g j < 2 ^ (8 * j) := by
  induction j with
  | zero => simp [acc]
  | succ j ih =>
    have e : 2 ^ (8 * (j + 1)) = 256 * 2 ^ (8 * j) := by rw [Nat.mul_add, Nat.pow_add]; omega
    have h1 : g j * 2 ^ (8 * j) ≤ 255 * 2 ^ (8 * j) := Nat.mul_le_mul_right _ (by have := h j; omega)
    simp only [acc]
    omega

theorem acc_byte (g : Nat → Nat) (h : ∀ t, g t < 256) (j t : Nat) : acc g j / 2 ^ (8 * t) % 256 = if t < j then g t else 0 := by
  induction j with
  | zero => simp [acc]
  | succ j ih =>
    simp only [acc]
    by_cases h1 : t < j
    · have e : 2 ^ (8 * j) = 2 ^ (8 * t) * (256 * 2 ^ (8 * (j - t - 1))) := by
        rw [show (256 : Nat) = 2 ^ 8 from rfl, ← Nat.pow_add, ← Nat.pow_add]; congr 1; omega
      rw [e, show g j * (2 ^ (8 * t) * (256 * 2 ^ (8 * (j - t - 1)))) = 2 ^ (8 * t) * (256 * (g j * 2 ^ (8 * (j - t - 1)))) by simp only [Nat.mul_left_comm, Nat.mul_comm, Nat.mul_assoc],
        Nat.add_mul_div_left _ _ (Nat.two_pow_pos _), Nat.add_mul_mod_self_left, ih, if_pos h1, if_pos (by omega)]
    · by_cases h2 : t = j
      · subst h2
        have := acc_lt g h t
        rw [Nat.add_mul_div_right _ _ (Nat.two_pow_pos _), Nat.div_eq_of_lt this, Nat.zero_add, if_pos (by omega)]
        exact Nat.mod_eq_of_lt (h t)
      · have h3 : acc g j + g j * 2 ^ (8 * j) < 2 ^ (8 * t) := by
          have a := acc_lt g h (j + 1)
          simp only [acc] at a
          exact Nat.lt_of_lt_of_le a (Nat.pow_le_pow_right (by omega) (by omega))
        rw [Nat.div_eq_of_lt h3, if_neg (by omega)]

theorem acc_u64 (g : Nat → Nat) (h : ∀ t, g t < 256) (j : Nat) (hj : j ≤ 8) : acc g j < 18446744073709551616 := by
  have a := acc_lt g h j
  have b : 2 ^ (8 * j) ≤ 2 ^ 64 := Nat.pow_le_pow_right (by omega) (by omega)
  omega

/-- 'x |= uint64(c) << (8 * j)', x the first j bytes, c the next. -/
theorem acc_or (g : Nat → Nat) (h : ∀ t, g t < 256) (j : Nat) (hj : j < 8) (c : Int) (hc : c = (g j : Int)) :
    bits .or .u64 (acc g j : Int) (IntKind.u64.wrap (IntKind.u64.wrap c * 2 ^ (8 * j))) = (acc g (j + 1) : Int) := by
  subst hc
  have a1 := acc_u64 g h (j + 1) (by omega)
  have a0 := acc_u64 g h j (by omega)
  simp only [acc] at a1
  have e1 : IntKind.u64.wrap ((g j : Nat) : Int) = ((g j : Nat) : Int) := by rw [IntKind.wrap_u64]; have := h j; omega
  have e2 : IntKind.u64.wrap (((g j : Nat) : Int) * 2 ^ (8 * j)) = ((g j * 2 ^ (8 * j) : Nat) : Int) := by
    rw [IntKind.wrap_u64, show (((g j : Nat) : Int) * 2 ^ (8 * j)) = ((g j * 2 ^ (8 * j) : Nat) : Int) by simp [Int.natCast_mul, Int.natCast_pow]]
    omega
  rw [e1, e2, u64_or_nat _ _ a0 (by omega), Nat.or_comm, nat_join (8 * j) _ _ (Nat.mul_mod_left _ _) (acc_lt g h j)]
  simp only [acc]
  omega

/-- 'byte(x >> (8 * t))'. -/
theorem acc_shr (g : Nat → Nat) (h : ∀ t, g t < 256) (j t : Nat) : ((acc g j : Int) / 2 ^ (8 * t)) % 256 = if t < j then (g t : Int) else 0 := by
  have a := acc_byte g h j t
  have e : ((acc g j : Int) / 2 ^ (8 * t)) % 256 = ((acc g j / 2 ^ (8 * t) % 256 : Nat) : Int) := by simp [Int.natCast_ediv, Int.natCast_pow, Int.natCast_emod]
  rw [e, a]
  split <;> simp

theorem and_range (a b : Int) (h1 : 0 ≤ a) (h2 : a < 256) (h3 : 0 ≤ b) (h4 : b < 256) : 0 ≤ bits .and .u8 a b ∧ bits .and .u8 a b < 256 := by
  rw [u8_and a b h1 h2 h3 h4]
  have : a.toNat &&& b.toNat ≤ a.toNat := Nat.and_le_left
  omega

theorem and_twice (a b : Int) (h1 : 0 ≤ a) (h2 : a < 256) (h3 : 0 ≤ b) (h4 : b < 256) : bits .and .u8 (bits .and .u8 a b) b = bits .and .u8 a b := by
  have r := and_range a b h1 h2 h3 h4
  rw [u8_and (bits .and .u8 a b) b r.1 r.2 h3 h4, u8_and a b h1 h2 h3 h4]
  simp [Nat.and_assoc]


/-- Where the bytes from k on stop being covered by the probe: its width. -/
def wid (n a : Nat) : Nat := min 8 (n - a)
def gM (fm : Nat → Int) (a t : Nat) : Nat := (fm (a + t)).toNat % 256
def gB (fb fm : Nat → Int) (a t : Nat) : Nat := (bits .and .u8 (fb (a + t)) (fm (a + t))).toNat % 256
theorem gM_lt (fm : Nat → Int) (a t : Nat) : gM fm a t < 256 := Nat.mod_lt _ (by omega)
theorem gB_lt (fb fm : Nat → Int) (a t : Nat) : gB fb fm a t < 256 := Nat.mod_lt _ (by omega)
theorem gM_eq (fm : Nat → Int) (a t : Nat) (h : 0 ≤ fm (a + t) ∧ fm (a + t) < 256) : fm (a + t) = (gM fm a t : Int) := by unfold gM; omega
theorem gB_eq (fb fm : Nat → Int) (a t : Nat) (h : 0 ≤ fm (a + t) ∧ fm (a + t) < 256) (h' : 0 ≤ fb (a + t) ∧ fb (a + t) < 256) : bits .and .u8 (fb (a + t)) (fm (a + t)) = (gB fb fm a t : Int) := by
  have := and_range _ _ h'.1 h'.2 h.1 h.2
  unfold gB
  omega

/-- The three cells of the probe that starts at a. -/
def pcell (fb fm : Nat → Int) (n a : Nat) : List Value := [.int .i64 (a : Int), .int .u64 (acc (gB fb fm a) (wid n a) : Int), .int .u64 (acc (gM fm a) (wid n a) : Int)]
def pcells (fb fm : Nat → Int) (n : Nat) (ps : List Nat) : List Value := ps.flatMap (pcell fb fm n)
theorem pcells_snoc (fb fm : Nat → Int) (n : Nat) (ps : List Nat) (a : Nat) : pcells fb fm n (ps ++ [a]) = pcells fb fm n ps ++ pcell fb fm n a := by simp [pcells]
theorem pcells_length (fb fm : Nat → Int) (n : Nat) (ps : List Nat) : (pcells fb fm n ps).length = ps.length * 3 := by
  induction ps with
  | nil => rfl
  | cons a ps ih => simp only [pcells, List.flatMap_cons, List.length_append, List.length_cons] at ih ⊢; rw [ih]; simp [pcell]; omega
theorem pcells_get (fb fm : Nat → Int) (n : Nat) (ps : List Nat) (k c : Nat) (hk : k < ps.length) (hc : c < 3) : (pcells fb fm n ps)[k * 3 + c]? = (pcell fb fm n (ps.getD k 0))[c]? := by
  induction ps generalizing k with
  | nil => simp at hk
  | cons a ps ih =>
    cases k with
    | zero =>
      simp only [pcells, List.flatMap_cons, Nat.zero_mul, Nat.zero_add, List.getD_cons_zero]
      exact List.getElem?_append_left (by simp [pcell]; omega)
    | succ k =>
      have := ih k (by simpa using hk)
      simp only [pcells, List.flatMap_cons, List.getD_cons_succ] at this ⊢
      rw [List.getElem?_append_right (by simp [pcell]; omega), ← this]
      congr 1
      simp [pcell]; omega

/-- Where the k-th probe's search begins: behind the one before. -/
def endAt (ps : List Nat) (k : Nat) : Nat := if k = 0 then 0 else ps.getD (k - 1) 0 + 8

/-- The probes so far, the search standing at i. -/
structure Starts (fm : Nat → Int) (n : Nat) (ps : List Nat) (i : Nat) : Prop where
  each : ∀ k, k < ps.length → endAt ps k ≤ ps.getD k 0 ∧ ps.getD k 0 < n ∧ ¬ fm (ps.getD k 0) = 0 ∧ ∀ j, endAt ps k ≤ j → j < ps.getD k 0 → fm j = 0
  last : endAt ps ps.length ≤ i
  rest : ∀ j, endAt ps ps.length ≤ j → j < i → fm j = 0
  few : ps.length ≤ i

theorem Starts.nil (fm : Nat → Int) (n : Nat) : Starts fm n [] 0 := ⟨fun k h => by simp at h, by simp [endAt], fun j _ h => by omega, by simp⟩
theorem Starts.skip {fm : Nat → Int} {n : Nat} {ps : List Nat} {i : Nat} (h : Starts fm n ps i) (h0 : fm i = 0) : Starts fm n ps (i + 1) := by
  refine ⟨h.each, by have := h.last; omega, fun j hj hi => ?_, by have := h.few; omega⟩
  by_cases e : j = i
  · subst e; exact h0
  · exact h.rest j hj (by omega)
theorem getD_app (l m : List Nat) (k : Nat) (h : k < l.length) : (l ++ m).getD k 0 = l.getD k 0 := by simp [List.getD, List.getElem?_append_left h]
theorem endAt_snoc (ps : List Nat) (a k : Nat) (h : k ≤ ps.length) : endAt (ps ++ [a]) k = endAt ps k := by
  unfold endAt
  by_cases e : k = 0
  · simp [e]
  · simp only [e, if_false]
    rw [getD_app _ _ _ (by omega)]
theorem Starts.push {fm : Nat → Int} {n : Nat} {ps : List Nat} {i : Nat} (h : Starts fm n ps i) (hi : i < n) (h0 : ¬ fm i = 0) : Starts fm n (ps ++ [i]) (i + 8) := by
  have e1 : endAt (ps ++ [i]) (ps ++ [i]).length = i + 8 := by simp [endAt]
  refine ⟨fun k hk => ?_, by omega, fun j hj hj' => by omega, by have := h.few; simp; omega⟩
  have hk' : k < ps.length + 1 := by simpa using hk
  rw [endAt_snoc ps i k (by omega)]
  by_cases e : k < ps.length
  · rw [getD_app _ _ _ e]; exact h.each k e
  · obtain rfl : k = ps.length := by omega
    have e2 : (ps ++ [i]).getD ps.length 0 = i := by simp
    rw [e2]
    exact ⟨h.last, hi, h0, h.rest⟩
end Go.Proofs.Ybulkyqs
