/-
  What is proved here: plain facts on the text of a dump: what closing writes, lengths, where the digits of a byte stand, that a line holds no line feed but its last sign. No program is in sight. Conditions: each lemma says its own.
-/
import Derived.Test.YtbioeknobmcbiaaHex
namespace Go.Proofs.Ytbioeknobmcbiaa

/-! what closing writes -/
def blkC (u : Nat) : List UInt8 := [32, 32, 32] ++ (if u = 7 then [32] else if u = 15 then [32, 124] else [])
def blksC (u : Nat) : Nat → List UInt8
  | 0 => []
  | j + 1 => blksC u j ++ blkC (u + j)
theorem blksC_part (u j : Nat) (h : u + j ≤ 15) : blksC u j = blanks u j := by
  induction j with
  | zero => rfl
  | succ j ih =>
    rw [blksC, ih (by omega), blanks_append u j 1]
    congr 1
    simp only [blanks, List.append_nil, blkC, blankT, gap]
    by_cases h7 : u + j = 7
    · simp [h7]
    · rw [if_neg h7, if_neg (by omega), if_neg (by omega)]
theorem blksC_all (u j : Nat) (h : u + j = 15) : blksC u (j + 1) = blanks u (j + 1) ++ [124] := by
  rw [blksC, blksC_part u j (by omega), blanks_append u j 1, List.append_assoc]
  congr 1
  simp [blanks, blkC, blankT, gap, h]
theorem blksC_length (u j : Nat) : (blksC u j).length ≤ 5 * j := by
  induction j with
  | zero => simp [blksC]
  | succ j ih =>
    have : (blkC (u + j)).length ≤ 5 := by unfold blkC; split <;> (try split) <;> simp
    rw [blksC, List.length_append]; omega
theorem blkC_length (u : Nat) : (blkC u).length = if u = 7 then 4 else if u = 15 then 5 else 3 := by
  unfold blkC
  by_cases h7 : u = 7
  · simp [h7]
  · by_cases h15 : u = 15 <;> simp [h7, h15]

theorem open_whole (a : Nat) (ds : List UInt8) (h : ds.length % 16 = 0) : openFrom a ds = dumpFrom a ds := by
  induction hn : ds.length using Nat.strongRecOn generalizing a ds with
  | _ n ih =>
    subst hn
    by_cases h0 : ds.length = 0
    · rw [List.eq_nil_of_length_eq_zero h0, open_nil, dump_nil]
    · rw [open_step a ds (by omega), dump_step a ds h0, ih (ds.drop 16).length (by rw [List.length_drop]; omega) (a + 16) (ds.drop 16) (by rw [List.length_drop]; omega) rfl]
/-- what closing adds -/
def closeT (ds : List UInt8) : List UInt8 := if ds.length % 16 = 0 then [] else blanks (ds.length % 16) (16 - ds.length % 16) ++ [124] ++ (lastL ds ++ [124, 10])
theorem dump_close (ds : List UInt8) : dumpFrom 0 ds = openFrom 0 ds ++ closeT ds := by
  by_cases h : ds.length % 16 = 0
  · rw [open_whole 0 ds h, closeT, if_pos h, List.append_nil]
  · have ht : (ds.take (16 * (ds.length / 16))).length = 16 * (ds.length / 16) := by rw [List.length_take]; omega
    have hl : (ds.drop (16 * (ds.length / 16))).length = ds.length % 16 := by rw [List.length_drop]; omega
    rw [openFrom_split, open_whole 0 _ (by rw [ht]; omega)]
    have e := dump_append 0 (ds.take (16 * (ds.length / 16))) (ds.drop (16 * (ds.length / 16))) (by rw [ht]; omega)
    rw [List.take_append_drop] at e
    rw [e, ht, List.append_assoc]
    congr 1
    unfold closeT lastL
    rw [if_neg h]
    generalize ds.drop (16 * (ds.length / 16)) = L at *
    rw [dump_step _ L (by rw [hl]; omega), List.take_of_length_le (l := L) (by rw [hl]; omega), List.drop_of_length_le (l := L) (by rw [hl]; omega), dump_nil, List.append_nil, open_part _ L (by rw [hl]; omega) (by rw [hl]; omega)]
    rw [lineT, hl]
    simp only [List.append_assoc, Nat.zero_add]
theorem open_prefix (ds : List UInt8) : openFrom 0 ds <+: dumpFrom 0 ds := by rw [dump_close]; exact List.prefix_append _ _

/-! lengths -/
theorem cellT_length (i : Nat) (b : UInt8) (h : i < 16) : (cellT i b).length = 3 + ((i + 1) / 8 - i / 8) := by
  unfold cellT gap
  by_cases h1 : i = 7 ∨ i = 15
  · rw [if_pos h1]; rcases h1 with rfl | rfl <;> rfl
  · rw [if_neg h1]; simp; omega
theorem cols_len (i : Nat) (l : List UInt8) (h : i + l.length ≤ 16) : (cols i l).length = 3 * l.length + ((i + l.length) / 8 - i / 8) := by
  induction l generalizing i with
  | nil => simp [cols]
  | cons b r ih =>
    rw [List.length_cons] at h
    rw [cols, List.length_append, ih (i + 1) (by omega), cellT_length i b (by omega), List.length_cons]
    omega
theorem blanks_len (i n : Nat) (h : i + n ≤ 16) : (blanks i n).length = 3 * n + ((i + n) / 8 - i / 8) := by
  induction n generalizing i with
  | zero => simp [blanks]
  | succ n ih =>
    have e : (blankT i).length = 3 + ((i + 1) / 8 - i / 8) := cellT_length i 0 (by omega)
    rw [blanks, List.length_append, ih (i + 1) (by omega), e]
    omega
theorem headT_len (a : Nat) (ds : List UInt8) (h : ds.length ≤ 16) : (headT a ds).length = 10 + 3 * ds.length + ds.length / 8 := by
  rw [headT, List.length_append, List.length_append, digits_length, cols_len 0 ds (by omega)]
  simp; omega
theorem lineT_len (a : Nat) (ds : List UInt8) (h : ds.length ≤ 16) : (lineT a ds).length = 63 + ds.length := by
  rw [lineT]
  simp only [List.length_append, headT_len a ds h, blanks_len _ _ (show ds.length + (16 - ds.length) ≤ 16 by omega), List.length_map, List.length_cons, List.length_nil]
  omega
theorem dump_len (a : Nat) (ds : List UInt8) : (dumpFrom a ds).length = 79 * (ds.length / 16) + (if ds.length % 16 = 0 then 0 else 63 + ds.length % 16) := by
  induction hn : ds.length using Nat.strongRecOn generalizing a ds with
  | _ n ih =>
    subst hn
    by_cases h0 : ds.length = 0
    · rw [List.eq_nil_of_length_eq_zero h0, dump_nil]; simp
    · rw [dump_step a ds h0, List.length_append, ih (ds.drop 16).length (by rw [List.length_drop]; omega) (a + 16) (ds.drop 16) rfl, lineT_len _ _ (List.length_take_le _ _), List.length_take, List.length_drop]
      by_cases h16 : ds.length ≤ 16
      · by_cases he : ds.length = 16
        · rw [he]; rfl
        · have e1 : ds.length - 16 = 0 := by omega
          have e2 : ds.length / 16 = 0 := by omega
          have e3 : ds.length % 16 = ds.length := by omega
          rw [e1, e2, e3, if_neg h0, Nat.min_eq_right h16]; simp
      · have e3 : (ds.length - 16) % 16 = ds.length % 16 := by omega
        rw [e3, Nat.min_eq_left (by omega)]
        split <;> omega
theorem dump_len_le (a : Nat) (ds : List UInt8) : (dumpFrom a ds).length ≤ 79 * ds.length := by
  rw [dump_len]; split <;> omega
theorem open_len_ge (ds : List UInt8) : 79 * (ds.length / 16) ≤ (openFrom 0 ds).length := by
  have ht : (ds.take (16 * (ds.length / 16))).length = 16 * (ds.length / 16) := by rw [List.length_take]; omega
  rw [openFrom_split, List.length_append, open_whole 0 _ (by rw [ht]; omega), dump_len, ht]
  have : 16 * (ds.length / 16) / 16 = ds.length / 16 := by omega
  rw [this]; omega

/-! where the digits stand -/
theorem line_at (a : Nat) (ds : List UInt8) (h : ds.length ≤ 16) (i : Nat) (b : UInt8) (hi : ds[i]? = some b) (t : List UInt8) :
    (lineT a ds ++ t)[10 + 3 * i + i / 8]? = some (hexd (b.toNat / 16)) ∧ (lineT a ds ++ t)[10 + 3 * i + i / 8 + 1]? = some (hexd b.toNat) := by
  have hlt : i < ds.length := (List.getElem?_eq_some_iff.1 hi).1
  have e : ds = ds.take i ++ b :: ds.drop (i + 1) := by
    have hb : ds[i] = b := (List.getElem?_eq_some_iff.1 hi).2
    rw [← hb, List.getElem_cons_drop, List.take_append_drop]
  have hti : (ds.take i).length = i := by rw [List.length_take]; omega
  have hc : cols 0 ds = cols 0 (ds.take i) ++ (cellT i b ++ cols (i + 1) (ds.drop (i + 1))) := by
    conv => lhs; rw [e]
    rw [cols_append, hti, Nat.zero_add, cols]
  have hlen : (digits 8 a ++ [32, 32] ++ cols 0 (ds.take i)).length = 10 + 3 * i + i / 8 := by
    rw [List.length_append, List.length_append, digits_length, cols_len 0 _ (by rw [hti]; omega), hti]
    simp; omega
  obtain ⟨rest, hrest⟩ : ∃ rest, lineT a ds ++ t = (digits 8 a ++ [32, 32] ++ cols 0 (ds.take i)) ++ (hexd (b.toNat / 16) :: hexd b.toNat :: rest) := by
    refine ⟨32 :: (gap i ++ (cols (i + 1) (ds.drop (i + 1)) ++ (blanks ds.length (16 - ds.length) ++ (124 :: (ds.map shownC ++ (124 :: 10 :: t)))))), ?_⟩
    rw [lineT, headT, hc, cellT]
    simp only [List.append_assoc, List.cons_append, List.nil_append]
  rw [hrest]
  constructor
  · rw [List.getElem?_append_right (by omega), hlen, Nat.sub_self]; rfl
  · rw [List.getElem?_append_right (by omega), hlen, show 10 + 3 * i + i / 8 + 1 - (10 + 3 * i + i / 8) = 1 by omega]; rfl

/-! a line holds no line feed but its last sign -/
def noNl (l : List UInt8) : Prop := ∀ x ∈ l, x ≠ 10
theorem noNl_append {a b : List UInt8} (h : noNl a) (k : noNl b) : noNl (a ++ b) := fun x hx => by
  rcases List.mem_append.1 hx with hx | hx
  · exact h x hx
  · exact k x hx
theorem hexd_ne (n : Nat) : hexd n ≠ 10 := by
  have : ∀ m : Fin 16, hexd m.1 ≠ 10 := by decide
  have h := this ⟨n % 16, Nat.mod_lt _ (by decide)⟩
  simp only [hexd, Nat.mod_mod] at h ⊢
  exact h
theorem shownC_ne (b : UInt8) : shownC b ≠ 10 := by
  unfold shownC
  split
  · decide
  · rename_i h
    rintro rfl
    exact h (.inl (by decide))
theorem noNl_digits (k n : Nat) : noNl (digits k n) := by
  induction k generalizing n with
  | zero => intro x hx; simp [digits] at hx
  | succ k ih => exact noNl_append (ih _) (fun x hx => by simp at hx; subst hx; exact hexd_ne n)
theorem noNl_gap (i : Nat) : noNl (gap i) := by
  intro x hx
  unfold gap at hx
  split at hx
  · simp at hx; subst hx; decide
  · simp at hx
theorem noNl_cellT (i : Nat) (b : UInt8) : noNl (cellT i b) := by
  refine noNl_append (fun x hx => ?_) (noNl_gap i)
  simp only [List.mem_cons, List.not_mem_nil, or_false] at hx
  rcases hx with rfl | rfl | rfl
  · exact hexd_ne _
  · exact hexd_ne _
  · decide
theorem noNl_cols (i : Nat) (l : List UInt8) : noNl (cols i l) := by
  induction l generalizing i with
  | nil => intro x hx; simp [cols] at hx
  | cons b r ih => exact noNl_append (noNl_cellT i b) (ih _)
theorem noNl_blanks (i n : Nat) : noNl (blanks i n) := by
  induction n generalizing i with
  | zero => intro x hx; simp [blanks] at hx
  | succ n ih =>
    refine noNl_append (noNl_append (fun x hx => ?_) (noNl_gap i)) (ih _)
    simp only [List.mem_cons, List.not_mem_nil, or_false, or_self] at hx
    subst hx; decide
/-- the line without its line feed -/
def bodyT (a : Nat) (ds : List UInt8) : List UInt8 := headT a ds ++ blanks ds.length (16 - ds.length) ++ [124] ++ ds.map shownC ++ [124]
theorem lineT_body (a : Nat) (ds : List UInt8) : lineT a ds = bodyT a ds ++ [10] := by simp [lineT, bodyT]
theorem bodyT_len (a : Nat) (ds : List UInt8) (h : ds.length ≤ 16) : (bodyT a ds).length = 62 + ds.length := by
  have := lineT_len a ds h
  rw [lineT_body, List.length_append] at this
  simp at this; omega
theorem noNl_body (a : Nat) (ds : List UInt8) : noNl (bodyT a ds) := by
  refine noNl_append (noNl_append (noNl_append (noNl_append (noNl_append (noNl_append (noNl_digits 8 a) ?_) (noNl_cols _ _)) (noNl_blanks _ _)) ?_) ?_) ?_
  · intro x hx; simp at hx; subst hx; decide
  · intro x hx; simp at hx; subst hx; decide
  · intro x hx
    obtain ⟨b, _, rfl⟩ := List.mem_map.1 hx
    exact shownC_ne b
  · intro x hx; simp at hx; subst hx; decide
end Go.Proofs.Ytbioeknobmcbiaa
