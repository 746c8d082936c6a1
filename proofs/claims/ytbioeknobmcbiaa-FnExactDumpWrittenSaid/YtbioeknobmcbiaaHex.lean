/-
  What is proved here: plain facts on the text of a dump: its lines, what an open one has, lengths. No program is in sight. Conditions: each lemma says its own.
-/
import Derived.Test.YtbioeknobmcbiaaBase
namespace Go.Proofs.Ytbioeknobmcbiaa

/-- a digit to the base 16 -/
def hexd (n : Nat) : UInt8 := if n % 16 < 10 then (48 + n % 16).toUInt8 else (87 + n % 16).toUInt8
/-- the last k digits of a number -/
def digits : Nat → Nat → List UInt8
  | 0, _ => []
  | k + 1, n => digits k (n / 16) ++ [hexd n]
theorem digits_length (k n : Nat) : (digits k n).length = k := by
  induction k generalizing n with
  | zero => rfl
  | succ k ih => simp [digits, ih]
/-- a character that is shown -/
def shownC (b : UInt8) : UInt8 := if b.toNat < 32 ∨ 126 < b.toNat then 46 else b
/-- what follows the columns 7 and 15 -/
def gap (i : Nat) : List UInt8 := if i = 7 ∨ i = 15 then [32] else []
def cellT (i : Nat) (b : UInt8) : List UInt8 := [hexd (b.toNat / 16), hexd b.toNat, 32] ++ gap i
def blankT (i : Nat) : List UInt8 := [32, 32, 32] ++ gap i
/-- the columns from i on -/
def cols : Nat → List UInt8 → List UInt8
  | _, [] => []
  | i, b :: r => cellT i b ++ cols (i + 1) r
/-- n empty columns from i on -/
def blanks : Nat → Nat → List UInt8
  | _, 0 => []
  | i, n + 1 => blankT i ++ blanks (i + 1) n
/-- the head of a line, and the columns that it has so far -/
def headT (at_ : Nat) (ds : List UInt8) : List UInt8 := digits 8 at_ ++ [32, 32] ++ cols 0 ds
/-- a whole line -/
def lineT (at_ : Nat) (ds : List UInt8) : List UInt8 := headT at_ ds ++ blanks ds.length (16 - ds.length) ++ [124] ++ ds.map shownC ++ [124, 10]

theorem cols_append (i : Nat) (a b : List UInt8) : cols i (a ++ b) = cols i a ++ cols (i + a.length) b := by
  induction a generalizing i with
  | nil => simp [cols]
  | cons x a ih => simp only [List.cons_append, cols, ih, List.length_cons, List.append_assoc]; congr 3; omega
theorem blanks_append (i n m : Nat) : blanks i (n + m) = blanks i n ++ blanks (i + n) m := by
  induction n generalizing i with
  | zero => simp [blanks]
  | succ n ih => rw [Nat.add_right_comm]; simp only [blanks, ih, List.append_assoc]; congr 3; omega

/-- THE DUMP of data that begins at an address, by lines -/
def dumpFrom (at_ : Nat) (ds : List UInt8) : List UInt8 :=
  if ds.length = 0 then [] else lineT at_ (ds.take 16) ++ dumpFrom (at_ + 16) (ds.drop 16)
termination_by ds.length
decreasing_by simp; omega
/-- what has been written when the dump is not closed -/
def openFrom (at_ : Nat) (ds : List UInt8) : List UInt8 :=
  if ds.length = 0 then [] else if ds.length < 16 then headT at_ ds else lineT at_ (ds.take 16) ++ openFrom (at_ + 16) (ds.drop 16)
termination_by ds.length
decreasing_by simp; omega

theorem dump_nil (a : Nat) : dumpFrom a [] = [] := by rw [dumpFrom]; simp
theorem open_nil (a : Nat) : openFrom a [] = [] := by rw [openFrom]; simp
theorem dump_step (a : Nat) (ds : List UInt8) (h : ds.length ≠ 0) : dumpFrom a ds = lineT a (ds.take 16) ++ dumpFrom (a + 16) (ds.drop 16) := by
  rw [dumpFrom, if_neg h]
theorem open_step (a : Nat) (ds : List UInt8) (h : 16 ≤ ds.length) : openFrom a ds = lineT a (ds.take 16) ++ openFrom (a + 16) (ds.drop 16) := by
  rw [openFrom, if_neg (by omega), if_neg (by omega)]
theorem open_part (a : Nat) (ds : List UInt8) (h0 : ds.length ≠ 0) (h : ds.length < 16) : openFrom a ds = headT a ds := by
  rw [openFrom, if_neg h0, if_pos h]
/-- behind whole lines -/
theorem dump_append (a : Nat) (x y : List UInt8) (h : x.length % 16 = 0) : dumpFrom a (x ++ y) = dumpFrom a x ++ dumpFrom (a + x.length) y := by
  induction hn : x.length using Nat.strongRecOn generalizing a x with
  | _ n ih =>
    by_cases h0 : x.length = 0
    · have : x = [] := List.eq_nil_of_length_eq_zero h0
      subst this; subst hn
      simp [dump_nil]
    · rw [dump_step _ (x ++ y) (by rw [List.length_append]; omega), dump_step _ x h0, List.take_append_of_le_length (by omega), List.drop_append_of_le_length (by omega)]
      rw [ih (x.drop 16).length (by rw [List.length_drop]; omega) (a + 16) (x.drop 16) (by rw [List.length_drop]; omega) rfl]
      rw [List.append_assoc]
      congr 3
      rw [List.length_drop]; omega
theorem open_append (a : Nat) (x y : List UInt8) (h : x.length % 16 = 0) : openFrom a (x ++ y) = openFrom a x ++ openFrom (a + x.length) y := by
  induction hn : x.length using Nat.strongRecOn generalizing a x with
  | _ n ih =>
    by_cases h0 : x.length = 0
    · have : x = [] := List.eq_nil_of_length_eq_zero h0
      subst this; subst hn
      simp [open_nil]
    · rw [open_step _ (x ++ y) (by rw [List.length_append]; omega), open_step _ x (by omega), List.take_append_of_le_length (by omega), List.drop_append_of_le_length (by omega)]
      rw [ih (x.drop 16).length (by rw [List.length_drop]; omega) (a + 16) (x.drop 16) (by rw [List.length_drop]; omega) rfl]
      rw [List.append_assoc]
      congr 3
      rw [List.length_drop]; omega

/-! what one byte more writes -/
/-- the head of a line, at its first byte -/
def hd0 (used n : Nat) : List UInt8 := if used = 0 then digits 8 n ++ [32, 32] else []
/-- the column of a byte, and the bar behind the last one -/
def ct (used : Nat) (b : UInt8) : List UInt8 := [hexd (b.toNat / 16), hexd b.toNat, 32] ++ (if used = 7 then [32] else if used = 15 then [32, 124] else [])
/-- the characters of the line that is not whole -/
def lastL (ds : List UInt8) : List UInt8 := (ds.drop (16 * (ds.length / 16))).map shownC
/-- the end of a whole line -/
def tl (used : Nat) (chars : List UInt8) : List UInt8 := if used = 15 then chars ++ [124, 10] else []

theorem openFrom_split (a : Nat) (ds : List UInt8) : openFrom a ds = openFrom a (ds.take (16 * (ds.length / 16))) ++ openFrom (a + 16 * (ds.length / 16)) (ds.drop (16 * (ds.length / 16))) := by
  have h : (ds.take (16 * (ds.length / 16))).length = 16 * (ds.length / 16) := by rw [List.length_take]; omega
  have e := open_append a (ds.take (16 * (ds.length / 16))) (ds.drop (16 * (ds.length / 16))) (by rw [h]; omega)
  rw [List.take_append_drop, h] at e
  exact e
theorem open_short (a : Nat) (l : List UInt8) (b : UInt8) (h : l.length < 16) (n : Nat) (hn : l.length = 0 → n = a) :
    openFrom a (l ++ [b]) = openFrom a l ++ hd0 l.length n ++ ct l.length b ++ tl l.length (l.map shownC ++ [shownC b]) := by
  have hcol : cols 0 (l ++ [b]) = cols 0 l ++ cellT l.length b := by rw [cols_append]; simp [cols]
  by_cases h15 : l.length = 15
  · rw [open_step a (l ++ [b]) (by simp; omega), List.take_of_length_le (by simp; omega), List.drop_of_length_le (by simp; omega), open_nil, List.append_nil]
    rw [open_part a l (by omega) (by omega)]
    rw [lineT, headT, headT, hcol, h15]
    simp [hd0, ct, tl, cellT, gap, blanks, h15]
  · rw [open_part a (l ++ [b]) (by simp) (by simp; omega)]
    by_cases h0 : l.length = 0
    · have : l = [] := List.eq_nil_of_length_eq_zero h0
      subst this
      rw [open_nil, headT, hcol, hn rfl]
      simp [hd0, ct, tl, cellT, gap, cols]
    · rw [open_part a l h0 h, headT, headT, hcol]
      by_cases h7 : l.length = 7 <;> simp [hd0, ct, tl, cellT, gap, h0, h7, h15]
theorem open_snoc (ds : List UInt8) (b : UInt8) : openFrom 0 (ds ++ [b]) = openFrom 0 ds ++ hd0 (ds.length % 16) ds.length ++ ct (ds.length % 16) b ++ tl (ds.length % 16) (lastL ds ++ [shownC b]) := by
  have hl : (ds.drop (16 * (ds.length / 16))).length = ds.length % 16 := by rw [List.length_drop]; omega
  have ht : (ds.take (16 * (ds.length / 16))).length = 16 * (ds.length / 16) := by rw [List.length_take]; omega
  have e1 : ds ++ [b] = ds.take (16 * (ds.length / 16)) ++ (ds.drop (16 * (ds.length / 16)) ++ [b]) := by rw [← List.append_assoc, List.take_append_drop]
  rw [e1, open_append 0 _ _ (by rw [ht]; omega), ht, open_short _ _ b (by rw [hl]; omega) ds.length (by rw [hl]; omega), hl, openFrom_split 0 ds]
  simp only [lastL, List.append_assoc, Nat.zero_add]
theorem lastL_length (ds : List UInt8) : (lastL ds).length = ds.length % 16 := by rw [lastL, List.length_map, List.length_drop]; omega
theorem lastL_snoc (ds : List UInt8) (b : UInt8) (h : ds.length % 16 ≠ 15) : lastL (ds ++ [b]) = lastL ds ++ [shownC b] := by
  unfold lastL
  rw [List.length_append, List.length_singleton, show (ds.length + 1) / 16 = ds.length / 16 by omega, List.drop_append_of_le_length (by omega), List.map_append]
  rfl
theorem cols_length (i : Nat) (l : List UInt8) : (cols i l).length ≤ 4 * l.length := by
  induction l generalizing i with
  | nil => simp [cols]
  | cons x r ih =>
    have := ih (i + 1)
    simp only [cols, List.length_append, List.length_cons, cellT, gap]
    split <;> simp <;> omega
theorem open_length (a : Nat) (ds : List UInt8) : (openFrom a ds).length ≤ 100 * ds.length := by
  induction hn : ds.length using Nat.strongRecOn generalizing a ds with
  | _ n ih =>
    subst hn
    by_cases h0 : ds.length = 0
    · rw [List.eq_nil_of_length_eq_zero h0, open_nil]; simp
    · by_cases h : ds.length < 16
      · rw [open_part a ds h0 h, headT]
        have := cols_length 0 ds
        simp only [List.length_append, digits_length, List.length_cons, List.length_nil]
        omega
      · rw [open_step a ds (by omega), List.length_append]
        have := ih (ds.drop 16).length (by rw [List.length_drop]; omega) (a + 16) (ds.drop 16) rfl
        have h2 := cols_length 0 (ds.take 16)
        have h16 : (ds.take 16).length = 16 := by rw [List.length_take]; omega
        rw [List.length_drop] at this
        have : (lineT a (ds.take 16)).length ≤ 100 := by
          rw [lineT, headT, h16, show blanks 16 (16 - 16) = [] from rfl]
          simp only [List.length_append, digits_length, List.length_cons, List.length_nil, List.length_map, h16]
          omega
        omega

theorem cons2 {a b : UInt8} {l m : List UInt8} (h : a = b) (k : l = m) : a :: l = b :: m := by rw [h, k]
/-- the address, as the dumper reckons it -/
theorem digits8 (n : Nat) : [n / 16777216, n / 65536, n / 256, n].flatMap (fun m => [hexd ((m.toUInt8).toNat / 16), hexd (m.toUInt8).toNat]) = digits 8 n := by
  have h : ∀ m : Nat, (m.toUInt8).toNat = m % 256 := fun m => by simp [Nat.toUInt8]
  have hx : ∀ a b : Nat, a % 16 = b % 16 → hexd a = hexd b := fun a b e => by unfold hexd; rw [e]
  simp only [List.flatMap_cons, List.flatMap_nil, h, digits, List.nil_append, List.append_nil, List.cons_append]
  refine cons2 (hx _ _ (by omega)) (cons2 (hx _ _ (by omega)) (cons2 (hx _ _ (by omega)) (cons2 (hx _ _ (by omega)) (cons2 (hx _ _ (by omega)) (cons2 (hx _ _ (by omega)) (cons2 (hx _ _ (by omega)) (cons2 (hx _ _ (by omega)) rfl)))))))
end Go.Proofs.Ytbioeknobmcbiaa
