/-
  What is proved here: the walk of FnReadList: it returns true. Conditions: at most 1048576 numbers and cuts; io.EOF and io.ErrUnexpectedEOF hold values as their initialisers lay them.
-/
import Derived.Test.YtllkjlfjoadifaaDoorList
import Derived.Test.YtllkjlfjoadifaaDoorSame
import Derived.Test.YtllkjlfjoadifaaDoorSpec
namespace Go.Proofs.YtllkjlfjoadifaaDoor
open Go.RowKit

theorem ret_boolR {a b : Bool} (h : a = b) : Ending.returned (.bool a) = .returned (.bool b) := by rw [h]

/-- ReadList at the bytes of numbers, a tail behind them. -/
theorem readNums (A : Option Addr) (c : Nat) (ps : List Value) (bss : List (List UInt8)) (zs : List Nat) (tail : List UInt8) (most fin : Int) (extra : Nat) (w : World) (aE aU : Addr) (hE : Errs w aE aU) (hr : Rd w A ps) (hp : Parts w ps bss) (h0 : 0 < ps.length) (hl : ps.length ≤ 12000000)
    (hz : ∀ x ∈ zs, x < 18446744073709551616) (hflat : bss.flatten = encL zs ++ tail) (hlz : zs.length ≤ 17592186043904) (hlt : tail.length ≤ 200000000000000) (hfin : Ending3 zs.length most tail fin extra) (hm0 : -9223372036854775808 ≤ most) (hm1 : most ≤ 9223372036854775807) :
    Calls Tryd.prog 14 #[.slice A ps.length c, .int .i64 most] w fun e w' => ∃ v, e = .returned (.tuple #[v, .int .i64 (((encL zs).length + extra : Nat) : Int), .int .i64 fin]) ∧ w'.ownsRow w.heap.size 31 1 v zs.length (nc zs) ∧ Below w.heap.size w w' := by
  have hle := encL_length_le zs hz
  have h := readListC A c ps bss (codesOf zs) tail most fin extra w aE aU hE hr hp h0 hl (codesOf_code hz) (by rw [codesOf_flat]; exact hflat) (by rw [codesOf_length]; exact hlz) (by rw [hflat, List.length_append]; omega) (by rw [codesOf_length]; exact hfin) hm0 hm1
  rw [codesOf_flat, codesOf_length, codesOf_nums] at h
  exact h

set_option maxHeartbeats 4000000 in
set_option maxRecDepth 100000 in
theorem walkFnReadList (A : Option Addr) (c : Nat) (zs : List Nat) (A2 : Option Addr) (c2 : Nat) (ls : List Int) (w : World) (aE aU : Addr) (hE : Errs w aE aU) (hr : Rd w A (nc zs)) (hz : ∀ x ∈ zs, x < 18446744073709551616) (hl : zs.length ≤ 1048576)
    (hr2 : Rd w A2 (ic ls)) (hls : ∀ x ∈ ls, -9223372036854775808 ≤ x ∧ x ≤ 9223372036854775807) (hl2 : ls.length ≤ 1048576) :
    Calls Tryd.prog 5 #[.slice A zs.length c, .slice A2 ls.length c2] w fun e w' => e = .returned (.bool true) ∧ Below w.heap.size w w' := by
  have hle := encL_length_le zs hz
  have HE := Lib.hid hE
  have HR := Lib.hid hr
  have HZ := Lib.hid hz
  have HR2 := Lib.hid hr2
  have HLS := Lib.hid hls
  clear hE hr hz hr2 hls
  go_enter Tryd.func5, Tryd.ntmps5
  go_wp2_with fail
  refine (specList A c zs _ HR.out HZ.out (by omega)).mono ?_
  rintro e w1 ⟨v1, rfl, hown1, hb1⟩
  obtain ⟨A1, c1, rfl, hc1, hcm1, hr1⟩ := own_rd hown1
  go_wp2_with fail
  refine (cutC A1 A2 c1 c2 (encL zs) ls w1 hr1 hc1 hcm1 (HR2.out.below hb1) HLS.out (by omega) (by omega)).mono ?_
  rintro e w2 ⟨v2, ps, bss, rfl, hown2, hparts, hflat, hb2, hpl, hp0⟩
  obtain ⟨Ap, cp, rfl, _, _, hrp⟩ := own_rd hown2
  have B2 : Hid (Below w.heap.size w w2) := hb1.trans (hb2.mono hb1.size)
  have HC := Lib.hid (readNums Ap cp ps bss zs [] ((zs.length : Int) + 1) 1 0 w2 aE aU (HE.out.below B2.out) hrp hparts hp0 (by omega) HZ.out (by rw [List.append_nil]; exact hflat) (by omega) (by simp) (.inl ⟨by omega, rfl, rfl, rfl⟩) (by omega) (by omega))
  clear hown1 hr1 hb1 hown2 hb2 hparts hrp hflat
  go_wp2_with fail
  refine HC.out.mono ?_
  rintro e w3 ⟨v3, rfl, hown3, hb3⟩
  obtain ⟨A3, c3, rfl, _, _, hr3⟩ := own_rd hown3
  have B3 : Hid (Below w.heap.size w w3) := B2.out.trans (hb3.mono B2.out.size)
  clear hown3 hb3 HC
  go_wp2_with fail
  refine (sameNumbers A3 A c3 c zs w3 hr3 (HR.out.below B3.out) (by omega)).mono ?_
  rintro e w4 ⟨rfl, hb4⟩
  have B4 : Hid (Below w.heap.size w w4) := B3.out.trans (hb4.mono B3.out.size)
  clear hb4 hr3
  go_wp2_with fail
  refine (specList A c zs w4 (HR.out.below B4.out) HZ.out (by omega)).mono ?_
  rintro e w5 ⟨v5, rfl, hown5, hb5⟩
  obtain ⟨A5, c5, rfl, _, _, _⟩ := own_rd hown5
  clear hown5
  go_wp2
  go_ret
  exact ⟨ret_boolR (by simp), B4.out.trans (hb5.mono B4.out.size)⟩
end Go.Proofs.YtllkjlfjoadifaaDoor
