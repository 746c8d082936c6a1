/-
  What is proved here: what impl.Uvarint gives back, and the walk of FnReadAsRead: it returns true. Conditions: at most 140737488351232 bytes; io.EOF and io.ErrUnexpectedEOF hold values as their initialisers lay them.
-/
import Derived.Test.YtllkjlfjoadifaaDoorSome
import Derived.Test.YtllkjlfjoadifaaDoorShelf
namespace Go.Proofs.YtllkjlfjoadifaaDoor
open Go.RowKit

theorem bin_uvarint (A : Option Addr) (n c : Nat) (bs : List UInt8) (w : World) (hr : Rd w A (bc bs)) (hn : bs.length = n) :
    Calls Tryd.prog 20 #[.slice A n c] w fun e w' => e = .returned (.tuple #[.int .u64 (Lib.uvarintDec bs).1, .int .i64 (Lib.uvarintDec bs).2]) ∧ w = w' := by
  subst hn
  rcases hr with h | ⟨b, off, rfl, _, hc⟩
  · have h0 : bs = [] := by simpa [bc, Lib.byteCells] using h
    subst h0
    exact (Tryd.binary_Uvarint_empty A c w).mono fun e w' h => ⟨h.1, h.2.symm⟩
  · exact (Tryd.binary_Uvarint b off bs.length c bs w rfl (fun j hj => hc j _ (by simp [bc, Lib.byteCells, List.getElem?_eq_getElem hj]))).mono fun e w' h => ⟨h.1, h.2.symm⟩

theorem uvarintZ (A : Option Addr) (n c : Nat) (bs : List UInt8) (x : Nat) (m : Int) (w : World) (hr : Rd w A (bc bs)) (hn : bs.length = n) (hd : Lib.uvarintDec bs = (x, m)) :
    Calls Tryd.prog 13 #[.slice A n c] w fun e w' => e = .returned (.tuple #[.int .u64 (x : Int), .int .i64 m]) ∧ w = w' := by
  have h := bin_uvarint A n c bs w hr hn
  rw [hd] at h
  have H := Lib.hid h
  clear h hd hr hn
  go_enter Tryd.func13, Tryd.ntmps13
  go_wp2_with fail
  refine H.out.mono ?_
  rintro e w' ⟨rfl, rfl⟩
  go_wp2
  go_ret2
  exact ⟨rfl, rfl⟩

theorem from_cases : ∀ (l : List UInt8) (i acc : Nat), i ≤ 10 → (∃ n : Int, Lib.uvarintFrom i acc l = (0, n) ∧ n < 0 ∧ -11 ≤ n) ∨ ((∀ d ∈ l, 128 ≤ d.toNat) ∧ i + l.length ≤ 10) ∨
    ∃ (pre : List UInt8) (b : UInt8) (r : List UInt8), l = pre ++ b :: r ∧ (∀ d ∈ pre, 128 ≤ d.toNat) ∧ b.toNat < 128 ∧ i + pre.length ≤ 9 ∧ (i + pre.length = 9 → b.toNat ≤ 1) := by
  intro l
  induction l with
  | nil => intro i acc hi; exact .inr (.inl ⟨by simp, by simpa using hi⟩)
  | cons b l ih =>
    intro i acc hi
    by_cases h10 : i = 10
    · exact .inl ⟨-((i : Int) + 1), by simp [Lib.uvarintFrom, h10], by omega, by omega⟩
    by_cases hb : b.toNat < 128
    · by_cases h9 : i = 9 ∧ 1 < b.toNat
      · exact .inl ⟨-((i : Int) + 1), by simp only [Lib.uvarintFrom]; rw [if_neg h10, if_pos hb, if_pos h9], by omega, by omega⟩
      · exact .inr (.inr ⟨[], b, l, rfl, by simp, hb, by simp; omega, by simp; omega⟩)
    · have e : Lib.uvarintFrom i acc (b :: l) = Lib.uvarintFrom (i + 1) (acc + b.toNat % 128 * 2 ^ (7 * i)) l := by
        simp only [Lib.uvarintFrom]; rw [if_neg h10, if_neg hb]
      rcases ih (i + 1) (acc + b.toNat % 128 * 2 ^ (7 * i)) (by omega) with ⟨n, hn, h0⟩ | ⟨ha, hl⟩ | ⟨pre, d, r, rfl, hp, hd, h9, h1⟩
      · exact .inl ⟨n, e.trans hn, h0⟩
      · refine .inr (.inl ⟨fun d hd => ?_, by simp only [List.length_cons]; omega⟩)
        rcases List.mem_cons.1 hd with rfl | h
        · omega
        · exact ha d h
      · refine .inr (.inr ⟨b :: pre, d, r, rfl, fun x hx => ?_, hd, by simp only [List.length_cons]; omega, fun h => h1 (by simp only [List.length_cons] at h; omega)⟩)
        rcases List.mem_cons.1 hx with rfl | h
        · omega
        · exact hp x h

theorem dec_cases (bs : List UInt8) : (∃ (d : UInt8) (r : List UInt8) (n : Int), bs = d :: r ∧ 128 ≤ d.toNat ∧ Lib.uvarintDec bs = (0, n) ∧ n < 0 ∧ -11 ≤ n) ∨ ((∀ d ∈ bs, 128 ≤ d.toNat) ∧ bs.length ≤ 10 ∧ Lib.uvarintDec bs = (0, 0)) ∨
    ∃ (c r : List UInt8), bs = c ++ r ∧ Code c ∧ 0 < c.length ∧ c.length ≤ 10 ∧ Lib.uvarintDec bs = (uval c, (c.length : Int)) := by
  rcases from_cases bs 0 0 (by omega) with ⟨n, hn, h0, h11⟩ | ⟨ha, hl⟩ | ⟨pre, b, r, rfl, hp, hb, h9, h1⟩
  · cases bs with
    | nil => exact absurd (congrArg Prod.snd hn) (by simp [Lib.uvarintFrom]; omega)
    | cons d r =>
      by_cases hd : d.toNat < 128
      · have e : Lib.uvarintFrom 0 0 (d :: r) = (0 + d.toNat * 2 ^ (7 * 0), ((0 : Nat) : Int) + 1) := by
          simp only [Lib.uvarintFrom]; rw [if_neg (by omega), if_pos hd, if_neg (by omega)]
        rw [e] at hn
        have := congrArg Prod.snd hn
        simp at this
        omega
      · exact .inl ⟨d, r, n, rfl, by omega, hn, h0, h11⟩
  · exact .inr (.inl ⟨ha, by omega, dec_short ha (by omega)⟩)
  · refine .inr (.inr ⟨pre ++ [b], r, by simp, ⟨pre, b, rfl, hp, hb, by omega, fun h => h1 (by omega)⟩, by simp, by simp; omega, ?_⟩)
    rw [dec_split hb r hp (by omega) (fun h => h1 (by omega))]
    simp

/-- ReadList at one piece, in codes. -/
theorem readOneC (A : Option Addr) (c : Nat) (bs : List UInt8) (codes : List (List UInt8)) (tail : List UInt8) (most fin : Int) (extra : Nat) (w : World) (aE aU : Addr) (hE : Errs w aE aU) (hr : Rd w A (bc bs)) (hc : bs.length ≤ c) (hm : c ≤ maxLen)
    (hcodes : ∀ c ∈ codes, Code c) (hflat : bs = codes.flatten ++ tail) (hlc : codes.length ≤ 17592186043904) (hlb : bs.length ≤ 800000000000000000) (hfin : Ending3 codes.length most tail fin extra) (hm0 : -9223372036854775808 ≤ most) (hm1 : most ≤ 9223372036854775807) :
    Calls Tryd.prog 14 #[.slice (some ⟨w.heap.size, 0, none⟩) 1 1, .int .i64 most] (w.alloc (.cells #[.slice A bs.length c] 24)) fun e w' => ∃ v, e = .returned (.tuple #[v, .int .i64 ((codes.flatten.length + extra : Nat) : Int), .int .i64 fin]) ∧ w'.ownsRow w.heap.size 31 1 v codes.length (numsU codes) ∧ Below w.heap.size w w' := by
  have h := readListC (some ⟨w.heap.size, 0, none⟩) 1 [.slice A bs.length c] [bs] codes tail most fin extra (w.alloc (.cells #[.slice A bs.length c] 24)) aE aU (hE.below (Below.alloc (Below.refl _ _) (Nat.le_refl _) _)) Rd.one (Parts.one hc hm (hr.below (Below.alloc (Below.refl _ _) (Nat.le_refl _) _))) (by simp) (by simp) hcodes (by rw [List.flatten_cons, List.flatten_nil, List.append_nil]; exact hflat) hlc (by simpa using hlb) hfin hm0 hm1
  refine h.mono ?_
  rintro e w' ⟨v, rfl, hown, hb'⟩
  exact ⟨v, rfl, own_mono hown (by simp), (Below.alloc (Below.refl _ _) (Nat.le_refl _) _).trans (hb'.mono (by simp))⟩

set_option maxHeartbeats 4000000 in
set_option maxRecDepth 100000 in
theorem walkFnReadAsRead (A : Option Addr) (c : Nat) (bs : List UInt8) (w : World) (aE aU : Addr) (hE : Errs w aE aU) (hr : Rd w A (bc bs)) (hl : bs.length ≤ 140737488351232) (hc : bs.length ≤ c) (hcm : c ≤ maxLen) :
    Calls Tryd.prog 4 #[.slice A bs.length c] w fun e w' => e = .returned (.bool true) ∧ Below w.heap.size w w' := by
  rcases dec_cases bs with ⟨d, r, n, rfl, hd, hdec, hn, h11⟩ | ⟨hbig, h10, hdec⟩ | ⟨cc, r, rfl, hcode, hpos, hcl, hdec⟩
  · have HU := Lib.hid (uvarintZ A (d :: r).length c (d :: r) 0 n w hr rfl hdec)
    obtain ⟨b, off, rfl, _, hcell⟩ := hr.at_ (k := 0) (u := .int .u8 (d.toNat : Int)) (by simp [bc, Lib.byteCells])
    rw [Nat.add_zero] at hcell
    clear hr hdec hE
    go_enter Tryd.func4, Tryd.ntmps4
    go_wp2_with fail
    refine HU.out.mono ?_
    rintro e w1 ⟨rfl, rfl⟩
    go_wp2
    go_ret
    exact ⟨ret_boolR (by simp; try omega), Below.refl _ _⟩
  · cases bs with
    | nil =>
      have HU := Lib.hid (uvarintZ A ([] : List UInt8).length c [] 0 0 w hr rfl hdec)
      have HC := Lib.hid (readOneC A c [] [] [] 1 1 0 w aE aU hE hr hc hcm (by simp) (by simp) (by simp) (by simp) (.inl ⟨by simp, rfl, rfl, rfl⟩) (by omega) (by omega))
      clear hr hdec hE
      simp only [List.length_nil] at HU HC
      simp only [List.length_nil]
      go_enter Tryd.func4, Tryd.ntmps4
      go_wp2_with fail
      refine HU.out.mono ?_
      rintro e w1 ⟨rfl, rfl⟩
      go_wp2_with fail
      refine HC.out.mono ?_
      rintro e w2 ⟨v2, rfl, hown2, hb2⟩
      obtain ⟨A2, c2, rfl, _, _, _⟩ := own_rd hown2
      have B2 := Lib.hid hb2
      clear hown2 hb2 HC HU
      go_wp2
      go_ret
      exact ⟨ret_boolR (by simp), B2.out⟩
    | cons d r =>
      have hd : 128 ≤ d.toNat := hbig d (by simp)
      have HU := Lib.hid (uvarintZ A (d :: r).length c (d :: r) 0 0 w hr rfl hdec)
      obtain ⟨b, off, rfl, hbl, hcell⟩ := hr.at_ (k := 0) (u := .int .u8 (d.toNat : Int)) (by simp [bc, Lib.byteCells])
      rw [Nat.add_zero] at hcell
      by_cases h9 : (d :: r).length ≤ 9
      · have HC := Lib.hid (readOneC (some ⟨b, off, none⟩) c (d :: r) [] (d :: r) 1 2 (d :: r).length w aE aU hE hr hc hcm (by simp) (by simp) (by simp) (by omega) (.inr (.inl ⟨by simp, hbig, by simp, h9, rfl, rfl⟩)) (by omega) (by omega))
        have HCELL := Lib.hid hcell
        clear hr hdec hE hbig hcell
        have hm0 : 0 < (d :: r).length := by simp
        generalize (d :: r).length = m at *
        go_enter Tryd.func4, Tryd.ntmps4
        go_wp2_with fail
        refine HU.out.mono ?_
        rintro e w1 ⟨rfl, rfl⟩
        go_wp2_with fail
        refine HC.out.mono ?_
        rintro e w2 ⟨v2, rfl, hown2, hb2⟩
        obtain ⟨A2, c2, rfl, _, _, _⟩ := own_rd hown2
        have hcell2 := (hb2.cell (p := ⟨b, off, none⟩) hbl).trans HCELL.out
        have B2 := Lib.hid hb2
        clear hown2 hb2 HC HU
        go_wp2
        go_ret
        exact ⟨ret_boolR (by simp; try omega), B2.out⟩
      · clear hr hdec hE hbig
        have hm0 : 0 < (d :: r).length := by simp
        generalize (d :: r).length = m at *
        have hm1 : 10 ≤ m := by omega
        go_enter Tryd.func4, Tryd.ntmps4
        go_wp2_with fail
        refine HU.out.mono ?_
        rintro e w1 ⟨rfl, rfl⟩
        go_wp2
        go_ret
        exact ⟨ret_boolR (by simp; try omega), Below.refl _ _⟩
  · have HU := Lib.hid (uvarintZ A (cc ++ r).length c (cc ++ r) (uval cc) cc.length w hr rfl hdec)
    have hC := readOneC A c (cc ++ r) [cc] r 1 0 0 w aE aU hE hr hc hcm (by simpa using hcode) (by simp) (by simp) (by omega) (.inr (.inr ⟨by simp, rfl, rfl⟩)) (by omega) (by omega)
    rw [show [cc].flatten.length + 0 = cc.length by simp, show numsU [cc] = nc [uval cc] from rfl, show [cc].length = 1 from rfl] at hC
    have HC := Lib.hid hC
    clear hr hdec hE hcode hC
    have hne : 0 < (cc ++ r).length := by simp; omega
    generalize (cc ++ r).length = m at *
    generalize cc.length = q at *
    generalize uval cc = y at *
    have hq0 : ((q : Int) == 0) = false := beq_eq_false_iff_ne.2 (by omega)
    have hm0 : ((m : Int) == 0) = false := beq_eq_false_iff_ne.2 (by omega)
    go_enter Tryd.func4, Tryd.ntmps4
    go_wp2_with fail
    refine HU.out.mono ?_
    rintro e w1 ⟨rfl, rfl⟩
    go_wp2_with fail
    refine HC.out.mono ?_
    rintro e w2 ⟨v2, rfl, hown2, hb2⟩
    obtain ⟨A2, c2, rfl, _, _, hr2⟩ := own_rd hown2
    obtain ⟨b, off, rfl, _, hcell⟩ := hr2.at_ (k := 0) (u := .int .u64 (y : Int)) (by simp [nc])
    rw [Nat.add_zero] at hcell
    have B2 := Lib.hid hb2
    clear hown2 hb2 hr2 HC HU
    go_wp2
    go_ret
    exact ⟨ret_boolR (by simp), B2.out⟩
end Go.Proofs.YtllkjlfjoadifaaDoor
