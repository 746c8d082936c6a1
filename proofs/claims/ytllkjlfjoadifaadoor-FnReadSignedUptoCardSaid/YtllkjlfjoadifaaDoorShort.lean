/-
  What is proved here: the walk of FnReadShort: it returns true. Conditions: at most 1048576 numbers and cuts; io.EOF and io.ErrUnexpectedEOF hold values as their initialisers lay them.
-/
import Derived.Test.YtllkjlfjoadifaaDoorSome
import Derived.Test.YtllkjlfjoadifaaDoorApp
namespace Go.Proofs.YtllkjlfjoadifaaDoor
open Go.RowKit

/-- the first bytes of a number, not all of them, all ask for more -/
theorem take_big {x k : Nat} (hk : k < (Lib.uvarint x).length) : ∀ d ∈ (Lib.uvarint x).take k, 128 ≤ d.toNat := by
  obtain ⟨pre, b, he, hp, _⟩ := uvarint_split x
  rw [he] at hk ⊢
  rw [List.length_append, List.length_singleton] at hk
  rw [List.take_append_of_le_length (by omega)]
  exact fun d hd => hp d (List.mem_of_mem_take hd)

theorem own_blk {w : World} {base : Nat} {e : TypeId} {n : Nat} {v : Value} {xs : List Value} (h : w.ownsRow base e 1 v n xs) : ∀ k, v.ownBlock = some k → base ≤ k := fun k hk => (h.lt k hk).1

theorem cutC' (A A2 : Option Addr) (c c2 n : Nat) (bs : List UInt8) (ls : List Int) (w : World) (hr : Rd w A (bc bs)) (hn : n = bs.length) (hc : bs.length ≤ c) (hcm : c ≤ maxLen) (hr2 : Rd w A2 (ic ls)) (hls : ∀ x ∈ ls, -9223372036854775808 ≤ x ∧ x ≤ 9223372036854775807) (hl : bs.length ≤ 11000000) (hl2 : ls.length ≤ 1048576) :
    Calls Tryd.prog 10 #[.slice A n c, .slice A2 ls.length c2] w fun e w' => ∃ v ps bss, e = .returned v ∧ w'.ownsRow w.heap.size 24 1 v ps.length ps ∧ Parts w' ps bss ∧ bss.flatten = bs ∧ Below w.heap.size w w' ∧ ps.length ≤ bs.length + 1 ∧ 0 < ps.length := by
  subst hn
  exact cutC A A2 c c2 bs ls w hr hc hcm hr2 hls (by omega) (by omega)

set_option maxHeartbeats 4000000 in
set_option maxRecDepth 100000 in
theorem walkFnReadShort (A : Option Addr) (c : Nat) (zs : List Nat) (x : Nat) (k : Int) (A2 : Option Addr) (c2 : Nat) (ls : List Int) (w : World) (aE aU : Addr) (hE : Errs w aE aU) (hr : Rd w A (nc zs)) (hz : ∀ x ∈ zs, x < 18446744073709551616) (hl : zs.length ≤ 1048576) (hx : x < 18446744073709551616) (hk0 : -9223372036854775808 ≤ k) (hk1 : k ≤ 9223372036854775807)
    (hr2 : Rd w A2 (ic ls)) (hls : ∀ x ∈ ls, -9223372036854775808 ≤ x ∧ x ≤ 9223372036854775807) (hl2 : ls.length ≤ 1048576) :
    Calls Tryd.prog 6 #[.slice A zs.length c, .int .u64 x, .int .i64 k, .slice A2 ls.length c2] w fun e w' => e = .returned (.bool true) ∧ Below w.heap.size w w' := by
  have hle := encL_length_le zs hz
  have hlen := Lib.uvarint_length64 hx
  have HE := Lib.hid hE
  have HR := Lib.hid hr
  have HZ := Lib.hid hz
  have HR2 := Lib.hid hr2
  have HLS := Lib.hid hls
  clear hE hr hz hr2 hls
  go_enter Tryd.func6, Tryd.ntmps6
  go_wp2_with fail
  refine (number x hx _).mono ?_
  rintro e w1 ⟨v1, rfl, hown1, hb1⟩
  obtain ⟨A1, c1, rfl, hc1, hcm1, hr1⟩ := own_rd hown1
  have B1 := Lib.hid hb1
  have HR1 := Lib.hid hr1
  clear hown1 hr1 hb1
  by_cases hlow : k < 1
  · clear HR1
    go_wp2
    go_ret
    exact ⟨rfl, B1.out⟩
  by_cases hhigh : ((Lib.uvarint x).length : Int) ≤ k
  · clear HR1
    go_wp2
    go_ret
    exact ⟨rfl, B1.out⟩
  obtain ⟨k, rfl⟩ := Int.eq_ofNat_of_zero_le (show 0 ≤ k by omega)
  have hkl : k < (Lib.uvarint x).length := by omega
  have hk1 : 0 < k := by omega
  have HTB := Lib.hid (take_big hkl)
  have HTL := Lib.hid (show ((Lib.uvarint x).take k).length = k by simp; omega)
  have HRT := Lib.hid (HR1.out.take k)
  generalize (Lib.uvarint x).take k = t at *
  generalize (Lib.uvarint x).length = u at *
  have hkc : k ≤ c1 := by omega
  have HCALL : Hid (Calls Tryd.prog 15 #[.slice A zs.length c] w1.drew fun e w' => ∃ A3 c3, e = .returned (.slice A3 (encL zs).length c3) ∧ Hid (w'.ownsRow w1.heap.size 5 1 (.slice A3 (encL zs).length c3) (encL zs).length (bc (encL zs))) ∧ Hid (Rd w' A1 (bc t)) ∧ Hid (Below w.heap.size w w') ∧ Hid (Below w1.heap.size w1 w')) := by
    refine (specList A c zs w1.drew (HR.out.below B1.out.drew) HZ.out (by omega)).mono ?_
    rintro e w2 ⟨v2, rfl, hown2, hb2⟩
    obtain ⟨A3, c3, rfl, _, _, _⟩ := own_rd hown2
    exact ⟨A3, c3, rfl, hown2, HRT.out.below ((Below.refl _ _).drew.trans hb2), B1.out.drew.trans (hb2.mono B1.out.size), (Below.refl _ _).drew.trans hb2⟩
  clear HR1 HRT
  have HB1 := Lib.hid B1.out.size
  go_wp2
  go_region_law (first
    | (refine step_app rfl (.tmp 25) (.tmp 28) rfl w1.heap.size _ _ (bc (encL zs)) rfl hown2.out A1 k c1 (bc t) rfl hrt2.out (by rw [bc_length]; exact HTL.out) (bc_one _) (by omega) (hB2b.out.size) ?_; intro v3 w3 hown3 hg3)
    | (go_simp; go_at_call 15; refine HCALL.out.mono ?_; rintro e w2 ⟨A3, c3, rfl, hown2, hrt2, hB2, hB2b⟩))
  all_goals
    have B3 := Lib.hid (hB2.out.grown hg3 hB2.out.size (fun j hj => Nat.le_trans B1.out.size (own_blk hown2.out j hj)))
    obtain ⟨A4, c4, rfl, hc4, hcm4, hr4⟩ := own_rd hown3
    rw [← bc_append] at hr4
    have HL4 := Lib.hid (show (encL zs).length + k = (encL zs ++ t).length by rw [List.length_append, HTL.out])
    have HC4 := Lib.hid (cutC' A4 A2 c4 c2 ((encL zs).length + k) (encL zs ++ t) ls w3 hr4 HL4.out (by rw [← HL4.out]; exact hc4) hcm4 (HR2.out.below B3.out) HLS.out (by rw [← HL4.out]; omega) (by omega))
    clear hown3 hg3 hr4 hown2 hrt2 hB2 hB2b HCALL
    go_wp2_with fail
    refine HC4.out.mono ?_
    rintro e w4 ⟨v4, ps, bss, rfl, hown4, hparts, hflat, hb4, hpl, hp0⟩
    obtain ⟨Ap, cp, rfl, _, _, hrp⟩ := own_rd hown4
    rw [← HL4.out] at hpl
    have B4 := Lib.hid (B3.out.trans (hb4.mono B3.out.size))
    have HC := Lib.hid (readNums Ap cp ps bss zs t ((zs.length : Int) + 2) 2 k w4 aE aU (HE.out.below B4.out) hrp hparts hp0 (by omega) HZ.out hflat (by omega) (by rw [HTL.out]; omega) (.inr (.inl ⟨by omega, HTB.out, by rw [HTL.out]; omega, by rw [HTL.out]; omega, rfl, HTL.out.symm⟩)) (by omega) (by omega))
    clear hown4 hparts hrp hflat hb4 HC4
    go_wp2_with fail
    refine HC.out.mono ?_
    rintro e w5 ⟨v5, rfl, hown5, hb5⟩
    obtain ⟨A5, c5, rfl, _, _, hr5⟩ := own_rd hown5
    have B5 := Lib.hid (B4.out.trans (hb5.mono B4.out.size))
    have HR5 := Lib.hid hr5
    clear hown5 hr5 hb5 HC
    go_wp2_with fail
    refine (sameNumbers A5 A c5 c zs w5 HR5.out (HR.out.below B5.out) (by omega)).mono ?_
    rintro e w6 ⟨rfl, hb6⟩
    have B6 := Lib.hid (B5.out.trans (hb6.mono B5.out.size))
    clear hb6
    go_wp2
    go_ret
    exact ⟨ret_boolR (by simp), B6.out⟩
end Go.Proofs.YtllkjlfjoadifaaDoor
