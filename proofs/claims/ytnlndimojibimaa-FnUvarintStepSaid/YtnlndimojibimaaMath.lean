/-
  What is proved here: plain facts on varints as lists of bytes (no program in sight): they are read back, they are told apart, their lengths. Conditions: each lemma says its own.
-/
import Derived.Lib.Varint
import Derived.Lib.VarintDec
import Derived.Lib.VarintMem
import Derived.Lib.Zigzag
namespace Go.Proofs.Ytnlndimojibimaa
open Go.Lib

/-- the bytes of a list of numbers, one number behind the other -/
def encL (l : List Nat) : List UInt8 := l.flatMap uvarint

theorem encL_nil : encL [] = [] := rfl
theorem encL_cons (x : Nat) (l : List Nat) : encL (x :: l) = uvarint x ++ encL l := by simp [encL]
theorem encL_append (l r : List Nat) : encL (l ++ r) = encL l ++ encL r := by simp [encL]
theorem encL_snoc (l : List Nat) (x : Nat) : encL (l ++ [x]) = encL l ++ uvarint x := by simp [encL]
theorem encL_one (x : Nat) : encL [x] = uvarint x := by simp [encL]

theorem encL_length_le (l : List Nat) (h : ∀ x ∈ l, x < 18446744073709551616) : (encL l).length ≤ 10 * l.length := by
  induction l with
  | nil => simp [encL]
  | cons x r ih =>
    have h1 := uvarint_length64 (h x (by simp))
    have h2 := ih (fun y hy => h y (by simp [hy]))
    rw [encL_cons, List.length_append, List.length_cons]
    omega

theorem encL_length_ge (l : List Nat) : l.length ≤ (encL l).length := by
  induction l with
  | nil => simp [encL]
  | cons x r ih =>
    have h1 := uvarint_pos x
    rw [encL_cons, List.length_append, List.length_cons]
    omega

/-- each varint has bytes from 128 on, and then one below 128 -/
theorem uvarint_split (x : Nat) : ∃ (pre : List UInt8) (b : UInt8), uvarint x = pre ++ [b] ∧ (∀ c ∈ pre, 128 ≤ c.toNat) ∧ b.toNat < 128 := by
  induction x using Nat.strongRecOn with
  | ind x ih =>
    by_cases hx : x < 128
    · exact ⟨[], x.toUInt8, by rw [uvarint_small hx]; rfl, by simp, by rw [toUInt8_toNat (by omega)]; exact hx⟩
    · obtain ⟨pre, b, he, hp, hb⟩ := ih (x / 128) (by omega)
      refine ⟨(x % 128 + 128).toUInt8 :: pre, b, by rw [uvarint_big (by omega), he]; rfl, ?_, hb⟩
      intro c hc
      rcases List.mem_cons.1 hc with rfl | hc
      · rw [toUInt8_toNat (by omega)]; omega
      · exact hp c hc

/-- the number that the low seven bits of bytes spell, the lowest first -/
def uval : List UInt8 → Nat
  | [] => 0
  | b :: r => b.toNat % 128 + 128 * uval r

theorem uval_uvarint (x : Nat) : uval (uvarint x) = x := by
  induction x using Nat.strongRecOn with
  | ind x ih =>
    by_cases hx : x < 128
    · rw [uvarint_small hx]
      simp only [uval]
      rw [toUInt8_toNat (by omega)]
      omega
    · rw [uvarint_big (by omega)]
      simp only [uval]
      rw [ih (x / 128) (by omega), toUInt8_toNat (by omega)]
      omega

theorem uval_append (l r : List UInt8) : uval (l ++ r) = uval l + 128 ^ l.length * uval r := by
  induction l with
  | nil => simp [uval]
  | cons b l ih =>
    simp only [List.cons_append, uval, ih, List.length_cons, Nat.pow_succ]
    rw [Nat.mul_add, Nat.add_assoc, ← Nat.mul_assoc, Nat.mul_comm 128 (128 ^ l.length)]

theorem uval_lt (l : List UInt8) : uval l < 128 ^ l.length := by
  induction l with
  | nil => simp [uval]
  | cons b l ih =>
    simp only [uval, List.length_cons, Nat.pow_succ]
    have : b.toNat % 128 < 128 := Nat.mod_lt _ (by decide)
    omega

theorem pow128 (k : Nat) : 128 ^ k = 2 ^ (7 * k) := by
  rw [show (128 : Nat) = 2 ^ 7 from by decide, ← Nat.pow_mul]

/-- THE DECODER at bytes that ask for more and one that does not. -/
theorem from_split (b : UInt8) (hb : b.toNat < 128) (rest : List UInt8) : ∀ (pre : List UInt8), (∀ c ∈ pre, 128 ≤ c.toNat) → ∀ (i acc : Nat), i + pre.length ≤ 9 → (i + pre.length = 9 → b.toNat ≤ 1) →
    uvarintFrom i acc (pre ++ b :: rest) = (acc + uval (pre ++ [b]) * 2 ^ (7 * i), ((i + pre.length + 1 : Nat) : Int)) := by
  intro pre
  induction pre with
  | nil =>
    intro _ i acc hi h9
    simp only [List.nil_append, uvarintFrom, uval, List.length_nil, Nat.add_zero] at *
    rw [if_neg (by omega), if_pos hb, if_neg (by omega)]
    have : b.toNat % 128 = b.toNat := Nat.mod_eq_of_lt hb
    rw [this]
    simp
  | cons c pre ih =>
    intro hp i acc hi h9
    have hc : 128 ≤ c.toNat := hp c (by simp)
    simp only [List.length_cons] at hi h9
    simp only [List.cons_append, uvarintFrom]
    rw [if_neg (by omega), if_neg (by omega), ih (fun d hd => hp d (by simp [hd])) (i + 1) _ (by omega) (fun h => h9 (by omega))]
    simp only [uval, List.length_cons]
    have e : 2 ^ (7 * (i + 1)) = 128 * 2 ^ (7 * i) := by
      rw [Nat.mul_add, Nat.pow_add]
      omega
    rw [e]
    refine Prod.ext ?_ ?_
    · show acc + c.toNat % 128 * 2 ^ (7 * i) + uval (pre ++ [b]) * (128 * 2 ^ (7 * i)) = acc + (c.toNat % 128 + 128 * uval (pre ++ [b])) * 2 ^ (7 * i)
      rw [Nat.add_mul, Nat.add_assoc, Nat.mul_assoc, Nat.mul_left_comm]
    · show ((i + 1 + pre.length + 1 : Nat) : Int) = ((i + (pre.length + 1) + 1 : Nat) : Int)
      omega

/-- THE DECODER at up to ten bytes that all ask for more: too few. -/
theorem from_short : ∀ (l : List UInt8), (∀ c ∈ l, 128 ≤ c.toNat) → ∀ (i acc : Nat), i + l.length ≤ 10 → uvarintFrom i acc l = (0, 0) := by
  intro l
  induction l with
  | nil => intro _ i acc _; simp [uvarintFrom]
  | cons c l ih =>
    intro hp i acc hi
    have hc : 128 ≤ c.toNat := hp c (by simp)
    simp only [List.length_cons] at hi
    simp only [uvarintFrom]
    rw [if_neg (by omega), if_neg (by omega)]
    exact ih (fun d hd => hp d (by simp [hd])) (i + 1) _ (by omega)

theorem dec_split {b : UInt8} (hb : b.toNat < 128) (rest : List UInt8) {pre : List UInt8} (hp : ∀ c ∈ pre, 128 ≤ c.toNat) (h9 : pre.length ≤ 9) (h1 : pre.length = 9 → b.toNat ≤ 1) :
    uvarintDec (pre ++ b :: rest) = (uval (pre ++ [b]), ((pre.length + 1 : Nat) : Int)) := by
  unfold uvarintDec
  rw [from_split b hb rest pre hp 0 0 (by omega) (by omega)]
  simp

theorem dec_short {l : List UInt8} (hp : ∀ c ∈ l, 128 ≤ c.toNat) (h : l.length ≤ 10) : uvarintDec l = (0, 0) := from_short l hp 0 0 (by omega)

/-- a varint of 64 bits: its bytes, and that the tenth one is at most 1 -/
theorem uvarint_parts {x : Nat} (hx : x < 18446744073709551616) : ∃ (pre : List UInt8) (b : UInt8), uvarint x = pre ++ [b] ∧ (∀ c ∈ pre, 128 ≤ c.toNat) ∧ b.toNat < 128 ∧ pre.length ≤ 9 ∧ (pre.length = 9 → b.toNat ≤ 1) ∧ uval (pre ++ [b]) = x := by
  obtain ⟨pre, b, he, hp, hb⟩ := uvarint_split x
  have hv : uval (pre ++ [b]) = x := by rw [← he, uval_uvarint]
  have hl := uvarint_length64 hx
  rw [he, List.length_append, List.length_singleton] at hl
  refine ⟨pre, b, he, hp, hb, by omega, fun h9 => ?_, hv⟩
  rw [uval_append, h9] at hv
  have h1 : uval [b] = b.toNat := by simp [uval]; omega
  rw [h1] at hv
  have e : (128 : Nat) ^ 9 = 9223372036854775808 := by decide
  rw [e] at hv
  omega

/-- WHAT IS ENCODED IS WHAT IS DECODED, whatever stands behind it. -/
theorem dec_enc {x : Nat} (hx : x < 18446744073709551616) (rest : List UInt8) : uvarintDec (uvarint x ++ rest) = (x, ((uvarint x).length : Int)) := by
  obtain ⟨pre, b, he, hp, hb, h9, h1, hv⟩ := uvarint_parts hx
  rw [he, List.append_assoc, List.singleton_append, dec_split hb rest hp h9 h1, hv]
  simp

/-- varints are told apart, whatever stands behind them -/
theorem uv_inj : ∀ (x y : Nat) (r s : List UInt8), uvarint x ++ r = uvarint y ++ s → x = y ∧ r = s := by
  intro x
  induction x using Nat.strongRecOn with
  | ind x ih =>
    intro y r s h
    by_cases hx : x < 128
    · by_cases hy : y < 128
      · rw [uvarint_small hx, uvarint_small hy] at h
        simp only [List.singleton_append, List.cons.injEq] at h
        have := congrArg UInt8.toNat h.1
        rw [toUInt8_toNat (by omega), toUInt8_toNat (by omega)] at this
        exact ⟨this, h.2⟩
      · rw [uvarint_small hx, uvarint_big (by omega)] at h
        simp only [List.cons_append, List.cons.injEq] at h
        have := congrArg UInt8.toNat h.1
        rw [toUInt8_toNat (by omega), toUInt8_toNat (by omega)] at this
        omega
    · by_cases hy : y < 128
      · rw [uvarint_small hy, uvarint_big (by omega)] at h
        simp only [List.cons_append, List.cons.injEq] at h
        have := congrArg UInt8.toNat h.1
        rw [toUInt8_toNat (by omega), toUInt8_toNat (by omega)] at this
        omega
      · rw [uvarint_big (by omega), uvarint_big (show 128 ≤ y by omega)] at h
        simp only [List.cons_append, List.cons.injEq] at h
        have := congrArg UInt8.toNat h.1
        rw [toUInt8_toNat (by omega), toUInt8_toNat (by omega)] at this
        obtain ⟨h1, h2⟩ := ih (x / 128) (by omega) (y / 128) r s h.2
        exact ⟨by omega, h2⟩

theorem encL_prefix : ∀ (a b : List Nat) (t : List UInt8), encL a ++ t = encL b → a <+: b := by
  intro a
  induction a with
  | nil => intro b t _; exact List.nil_prefix
  | cons x a ih =>
    intro b t h
    cases b with
    | nil =>
      rw [encL_cons, encL_nil] at h
      have := congrArg List.length h
      have hp := uvarint_pos x
      simp only [List.length_append, List.length_nil] at this
      omega
    | cons y b =>
      rw [encL_cons, encL_cons, List.append_assoc] at h
      obtain ⟨rfl, h2⟩ := uv_inj _ _ _ _ h
      exact (List.prefix_cons_inj _).2 (ih b t h2)

/-- A list begins with another one exactly if its bytes begin with those of it. -/
theorem encL_prefix_iff (a b : List Nat) : encL a <+: encL b ↔ a <+: b := by
  constructor
  · rintro ⟨t, h⟩; exact encL_prefix a b t h
  · rintro ⟨t, rfl⟩; exact ⟨encL t, by rw [encL_append]⟩

/-- how many bytes do not ask for more -/
def ends (l : List UInt8) : Nat := l.countP (fun b => decide (b.toNat < 128))

theorem ends_append (l r : List UInt8) : ends (l ++ r) = ends l + ends r := by simp [ends]
theorem ends_big {l : List UInt8} (h : ∀ c ∈ l, 128 ≤ c.toNat) : ends l = 0 := by
  unfold ends
  rw [List.countP_eq_zero]
  intro c hc
  have := h c hc
  simp
  omega
theorem ends_uvarint (x : Nat) : ends (uvarint x) = 1 := by
  obtain ⟨pre, b, he, hp, hb⟩ := uvarint_split x
  rw [he, ends_append, ends_big hp]
  simp [ends, hb]
theorem ends_encL (l : List Nat) : ends (encL l) = l.length := by
  induction l with
  | nil => simp [encL, ends]
  | cons x r ih => rw [encL_cons, ends_append, ends_uvarint, ih, List.length_cons]; omega

/-! lengths -/

theorem ulen_mono : ∀ (x y : Nat), x ≤ y → (uvarint x).length ≤ (uvarint y).length := by
  intro x
  induction x using Nat.strongRecOn with
  | ind x ih =>
    intro y h
    by_cases hx : x < 128
    · rw [uvarint_small hx]
      have := uvarint_pos y
      simpa using this
    · rw [uvarint_big (by omega), uvarint_big (show 128 ≤ y by omega), List.length_cons, List.length_cons]
      have := ih (x / 128) (by omega) (y / 128) (Nat.div_le_div_right h)
      omega

theorem ulen_step {x : Nat} (h : 0 < x) (r : Nat) (hr : r < 128) : (uvarint (128 * x + r)).length = (uvarint x).length + 1 := by
  rw [uvarint_big (by omega), List.length_cons]
  congr 2
  congr 1
  omega

theorem ulen_sum (x y : Nat) : max (uvarint x).length (uvarint y).length ≤ (uvarint (x + y)).length ∧ (uvarint (x + y)).length ≤ max (uvarint x).length (uvarint y).length + 1 := by
  have h1 := ulen_mono x (x + y) (by omega)
  have h2 := ulen_mono y (x + y) (by omega)
  refine ⟨by omega, ?_⟩
  rcases Nat.le_total x y with h | h
  · by_cases hy : y = 0
    · have : x = 0 := by omega
      subst this; subst hy; simp
    · have h3 := ulen_mono (x + y) (128 * y + 0) (by omega)
      rw [ulen_step (by omega) 0 (by omega)] at h3
      omega
  · by_cases hx : x = 0
    · have : y = 0 := by omega
      subst this; subst hx; simp
    · have h3 := ulen_mono (x + y) (128 * x + 0) (by omega)
      rw [ulen_step (by omega) 0 (by omega)] at h3
      omega

/-- the length changes only at a power of 128 -/
theorem ulen_pred : ∀ n : Nat, 0 < n → (uvarint n).length ≠ (uvarint (n - 1)).length → ∃ k, n = 128 ^ (k + 1) := by
  intro n
  induction n using Nat.strongRecOn with
  | ind n ih =>
    intro h0 h
    by_cases h1 : n < 128
    · rw [uvarint_small h1, uvarint_small (show n - 1 < 128 by omega)] at h
      exact absurd rfl h
    · by_cases h2 : n = 128
      · exact ⟨0, by rw [h2]⟩
      · rw [uvarint_big (by omega), uvarint_big (show 128 ≤ n - 1 by omega), List.length_cons, List.length_cons] at h
        have h3 : (uvarint (n / 128)).length ≠ (uvarint ((n - 1) / 128)).length := by omega
        by_cases h4 : n % 128 = 0
        · have h5 : (n - 1) / 128 = n / 128 - 1 := by omega
          rw [h5] at h3
          obtain ⟨k, hk⟩ := ih (n / 128) (by omega) (by omega) h3
          exact ⟨k + 1, by rw [Nat.pow_succ, ← hk]; omega⟩
        · have h5 : (n - 1) / 128 = n / 128 := by omega
          rw [h5] at h3
          exact absurd rfl h3

theorem pow_and_pred (j : Nat) : 2 ^ j &&& (2 ^ j - 1) = 0 := by
  rw [Nat.and_two_pow_sub_one_eq_mod, Nat.mod_self]

/-- twice a number that is no power of two, and one less, have as many bytes -/
theorem ulen_opposite {s : Nat} (h : s &&& (s - 1) ≠ 0) : (uvarint (2 * s)).length = (uvarint (2 * s - 1)).length := by
  by_cases h0 : s = 0
  · subst h0; simp
  · apply Classical.byContradiction
    intro hne
    obtain ⟨k, hk⟩ := ulen_pred (2 * s) (by omega) hne
    have e : (128 : Nat) ^ (k + 1) = 2 * 2 ^ (7 * k + 6) := by
      rw [pow128, show 7 * (k + 1) = (7 * k + 6) + 1 by omega, Nat.pow_succ, Nat.mul_comm]
    have hs : s = 2 ^ (7 * k + 6) := by omega
    exact h (by rw [hs]; exact pow_and_pred _)

theorem zig_opposite {x : Int} (h : x = 0 ∨ x.natAbs &&& (x.natAbs - 1) ≠ 0) : (uvarint (zigzag x)).length = (uvarint (zigzag (-x))).length := by
  rcases h with rfl | h
  · rfl
  · have h1 := ulen_opposite h
    by_cases h0 : 0 ≤ x
    · by_cases hz : x = 0
      · subst hz; rfl
      · have e1 : zigzag x = 2 * x.natAbs := by unfold zigzag; rw [if_pos h0]; omega
        have e2 : zigzag (-x) = 2 * x.natAbs - 1 := by unfold zigzag; rw [if_neg (by omega)]; omega
        rw [e1, e2, h1]
    · have e1 : zigzag x = 2 * x.natAbs - 1 := by unfold zigzag; rw [if_neg (by omega)]; omega
      have e2 : zigzag (-x) = 2 * x.natAbs := by unfold zigzag; rw [if_pos (by omega)]; omega
      rw [e1, e2, h1]

end Go.Proofs.Ytnlndimojibimaa
