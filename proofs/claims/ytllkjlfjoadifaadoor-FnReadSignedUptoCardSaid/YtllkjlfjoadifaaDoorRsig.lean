/-
  What is proved here: the walk of FnReadSigned: it returns true. Conditions: at most 1048576 numbers and cuts; io.EOF and io.ErrUnexpectedEOF hold values as their initialisers lay them.
-/
import Derived.Test.YtllkjlfjoadifaaDoorShort
import Derived.Test.YtllkjlfjoadifaaDoorSList
import Derived.Test.YtllkjlfjoadifaaDoorSigned
namespace Go.Proofs.YtllkjlfjoadifaaDoor
open Go.RowKit

/-- ReadSignedList at the bytes of numbers, a tail behind them. -/
theorem readSNums (A : Option Addr) (c : Nat) (ps : List Value) (bss : List (List UInt8)) (zs : List Int) (tail : List UInt8) (most fin : Int) (extra : Nat) (w : World) (aE aU : Addr) (hE : Errs w aE aU) (hr : Rd w A ps) (hp : Parts w ps bss) (h0 : 0 < ps.length) (hl : ps.length ≤ 12000000)
    (hz : ∀ x ∈ zs, -9223372036854775808 ≤ x ∧ x ≤ 9223372036854775807) (hflat : bss.flatten = encS zs ++ tail) (hlz : zs.length ≤ 17592186043904) (hlt : tail.length ≤ 200000000000000) (hfin : Ending3 zs.length most tail fin extra) (hm0 : -9223372036854775808 ≤ most) (hm1 : most ≤ 9223372036854775807) :
    Calls Tryd.prog 9 #[.slice A ps.length c, .int .i64 most] w fun e w' => ∃ v, e = .returned (.tuple #[v, .int .i64 (((encS zs).length + extra : Nat) : Int), .int .i64 fin]) ∧ w'.ownsRow w.heap.size 2 1 v zs.length (ic zs) ∧ Below w.heap.size w w' := by
  have hle := encS_length_le zs hz
  have hz' : ∀ x ∈ zs.map Lib.zigzag, x < 18446744073709551616 := fun x hx => by
    obtain ⟨y, hy, rfl⟩ := List.mem_map.1 hx
    exact Lib.zigzag_lt (hz y hy).1 (hz y hy).2
  have he : (codesOf (zs.map Lib.zigzag)).flatten = encS zs := by rw [codesOf_flat]; rfl
  have hlen : (codesOf (zs.map Lib.zigzag)).length = zs.length := by rw [codesOf_length, List.length_map]
  have h := readSignedC A c ps bss (codesOf (zs.map Lib.zigzag)) tail most fin extra w aE aU hE hr hp h0 hl (codesOf_code hz') (by rw [he]; exact hflat) (by rw [hlen]; exact hlz) (by rw [hflat, List.length_append]; omega) (by rw [hlen]; exact hfin) hm0 hm1
  rw [he, hlen, codesOf_numsS] at h
  exact h

theorem below_grown0 {w w' : World} (hg : w.grownBy w' (Value.slice none 0 0).ownBlock) : Below w.heap.size w w' :=
  (Below.refl _ _).grown hg (Nat.le_refl _) (fun k e => by cases e)

set_option maxHeartbeats 4000000 in
set_option maxRecDepth 100000 in
theorem walkFnReadSigned (A : Option Addr) (c : Nat) (zs : List Int) (x k : Int) (A2 : Option Addr) (c2 : Nat) (ls : List Int) (w : World) (aE aU : Addr) (hE : Errs w aE aU) (hr : Rd w A (ic zs)) (hz : ∀ x ∈ zs, -9223372036854775808 ≤ x ∧ x ≤ 9223372036854775807) (hl : zs.length ≤ 1048576) (hx0 : -9223372036854775808 ≤ x) (hx1 : x ≤ 9223372036854775807) (hk0 : -9223372036854775808 ≤ k) (hk1 : k ≤ 9223372036854775807)
    (hr2 : Rd w A2 (ic ls)) (hls : ∀ x ∈ ls, -9223372036854775808 ≤ x ∧ x ≤ 9223372036854775807) (hl2 : ls.length ≤ 1048576) :
    Calls Tryd.prog 3 #[.slice A zs.length c, .int .i64 x, .int .i64 k, .slice A2 ls.length c2] w fun e w' => e = .returned (.bool true) ∧ Below w.heap.size w w' := by
  have hle := encS_length_le zs hz
  have hx64 := Lib.zigzag_lt hx0 hx1
  have hlen := Lib.uvarint_length64 hx64
  have HE := Lib.hid hE
  have HR := Lib.hid hr
  have HZ := Lib.hid hz
  have HR2 := Lib.hid hr2
  have HLS := Lib.hid hls
  clear hE hr hz hr2 hls
  go_enter Tryd.func3, Tryd.ntmps3
  go_wp2_with fail
  refine (specSigned A c zs _ HR.out HZ.out (by omega)).mono ?_
  rintro e w1 ⟨v1, rfl, hown1, hb1⟩
  obtain ⟨A1, c1, rfl, hc1, hcm1, hr1⟩ := own_rd hown1
  have B1 := Lib.hid hb1
  have HR1 := Lib.hid hr1
  clear hown1 hr1 hb1
  go_wp2_with fail
  refine (cutC A1 A2 c1 c2 (encS zs) ls w1 HR1.out hc1 hcm1 (HR2.out.below B1.out) HLS.out (by omega) (by omega)).mono ?_
  rintro e w2 ⟨v2, ps, bss, rfl, hown2, hparts, hflat, hb2, hpl, hp0⟩
  obtain ⟨Ap, cp, rfl, _, _, hrp⟩ := own_rd hown2
  have B2 := Lib.hid (B1.out.trans (hb2.mono B1.out.size))
  have HR1b := Lib.hid (HR1.out.below hb2)
  have HC := Lib.hid (readSNums Ap cp ps bss zs [] ((zs.length : Int) + 1) 1 0 w2 aE aU (HE.out.below B2.out) hrp hparts hp0 (by omega) HZ.out (by rw [List.append_nil]; exact hflat) (by omega) (by simp) (.inl ⟨by omega, rfl, rfl, rfl⟩) (by omega) (by omega))
  clear hown2 hparts hrp hflat hb2 hpl hp0 HR1
  go_wp2_with fail
  refine HC.out.mono ?_
  rintro e w3 ⟨v3, rfl, hown3, hb3⟩
  obtain ⟨A3, c3, rfl, _, _, hr3⟩ := own_rd hown3
  have B3 := Lib.hid (B2.out.trans (hb3.mono B2.out.size))
  have HR3 := Lib.hid hr3
  have HR1c := Lib.hid (HR1b.out.below hb3)
  have HRz := Lib.hid (HR.out.below B3.out)
  clear hown3 hr3 hb3 HC HR1b
  go_wp2
  go_loop [47] (fun i => ∃ j : Nat, j ≤ zs.length ∧ i = .int .i64 j)
    (fun i => zs.length - (intOf i).toNat)
  case atStart => exact ⟨0, Nat.zero_le _, rfl⟩
  case round =>
    obtain ⟨j, hj, rfl⟩ := hrel
    by_cases hlt : j < zs.length
    · obtain ⟨y, hy, hcy⟩ := ic_at hlt
      obtain ⟨b, off, rfl, hb, hcell⟩ := HRz.out.at_ hcy
      obtain ⟨b2, off2, rfl, hb2, hcell2⟩ := HR3.out.at_ hcy
      have hji : (j : Int) < (zs.length : Int) := by omega
      have hj0 : (0 : Int) ≤ (j : Int) := by omega
      clear hy hcy
      go_wp2
      go_round
      case rel => exact ⟨j + 1, by omega, by go_num⟩
      case measure => simp [intOf]; omega
    · obtain rfl : j = zs.length := by omega
      clear HR3 HRz
      go_wp2_with fail
      refine (signed x hx0 hx1 _).mono ?_
      rintro e w' ⟨rfl, rfl⟩
      go_wp2_with fail
      refine (number (Lib.zigzag x) hx64 _).mono ?_
      rintro e w4 ⟨v4, rfl, hown4, hb4⟩
      obtain ⟨A4, c4, rfl, hc4, hcm4, hr4⟩ := own_rd hown4
      have B4 := Lib.hid (B3.out.trans (hb4.mono B3.out.size))
      have HR4 := Lib.hid hr4
      have HR1d := Lib.hid (HR1c.out.below hb4)
      clear hown4 hr4 hb4 HR1c
      by_cases hlow : k < 1
      · clear HR4
        go_wp2
        go_ret
        exact ⟨rfl, B4.out⟩
      by_cases hhigh : ((Lib.uvarint (Lib.zigzag x)).length : Int) ≤ k
      · clear HR4
        go_wp2
        go_ret
        exact ⟨rfl, B4.out⟩
      obtain ⟨k, rfl⟩ := Int.eq_ofNat_of_zero_le (show 0 ≤ k by omega)
      have hkl : k < (Lib.uvarint (Lib.zigzag x)).length := by omega
      have hk1 : 0 < k := by omega
      have HTB := Lib.hid (take_big hkl)
      have HTL := Lib.hid (show ((Lib.uvarint (Lib.zigzag x)).take k).length = k by simp; omega)
      have HRT := Lib.hid (HR4.out.take k)
      generalize (Lib.uvarint (Lib.zigzag x)).take k = t at *
      generalize (Lib.uvarint (Lib.zigzag x)).length = u at *
      have hkc : k ≤ c4 := by omega
      have HRa : Hid (Rd w4.drew A1 (bc (encS zs))) := Lib.hid (HR1d.out.below (Below.refl _ _).drew)
      have HRb : Hid (Rd w4.drew A4 (bc t)) := Lib.hid (HRT.out.below (Below.refl _ _).drew)
      have HN : Hid (w4.drew.ownsRow w4.heap.size 5 1 (.slice none 0 0) 0 []) := Lib.hid (World.ownsRow_nil _ _ _ _)
      have B4d : Hid (Below w.heap.size w w4.drew) := Lib.hid B4.out.drew
      clear HR4 HRT HR1d
      go_wp2
      go_region_law (first
        | (refine step_app rfl (.const (.slice none 0 0)) (.tmp 70) rfl w4.heap.size _ _ [] rfl HN.out A1 (encS zs).length c1 (bc (encS zs)) rfl HRa.out (bc_length _) (bc_one _) (by omega) (Nat.le_refl _) ?_; intro v5 w5 hown5 hg5; have H5 := Lib.hid hown5; have HG5 := Lib.hid hg5; clear hown5 hg5)
        | (refine step_app rfl (.tmp 71) (.tmp 74) rfl w4.heap.size _ _ ([] ++ bc (encS zs)) rfl H5.out A4 k c4 (bc t) rfl (HRb.out.below (below_grown0 HG5.out)) (by rw [bc_length]; exact HTL.out) (bc_one _) (by omega) (below_grown0 HG5.out).size ?_; intro v6 w6 hown6 hg6))
      all_goals
        have B5 := Lib.hid (B4d.out.trans ((below_grown0 HG5.out).mono B4d.out.size))
        have B6 := Lib.hid (B5.out.grown hg6 B5.out.size (fun j hj => Nat.le_trans B4.out.size (own_blk H5.out j hj)))
        obtain ⟨A6, c6, rfl, hc6, hcm6, hr6⟩ := own_rd hown6
        rw [List.nil_append, ← bc_append] at hr6
        have HL6 := Lib.hid (show 0 + (encS zs).length + k = (encS zs ++ t).length by rw [List.length_append, HTL.out, Nat.zero_add])
        have HC6 := Lib.hid (cutC' A6 A2 c6 c2 (0 + (encS zs).length + k) (encS zs ++ t) ls w6 hr6 HL6.out (by rw [← HL6.out]; exact hc6) hcm6 (HR2.out.below B6.out) HLS.out (by rw [← HL6.out]; omega) (by omega))
        clear hown6 hg6 hr6 H5 HG5 HN HRa HRb
        simp only [Nat.zero_add] at HC6 HL6
        go_wp2_with fail
        refine HC6.out.mono ?_
        rintro e w7 ⟨v7, ps, bss, rfl, hown7, hparts, hflat, hb7, hpl, hp0⟩
        obtain ⟨Ap, cp, rfl, _, _, hrp⟩ := own_rd hown7
        rw [← HL6.out] at hpl
        have B7 := Lib.hid (B6.out.trans (hb7.mono B6.out.size))
        have HC := Lib.hid (readSNums Ap cp ps bss zs t ((zs.length : Int) + 1) 2 k w7 aE aU (HE.out.below B7.out) hrp hparts hp0 (by omega) HZ.out hflat (by omega) (by rw [HTL.out]; omega) (.inr (.inl ⟨by omega, HTB.out, by rw [HTL.out]; omega, by rw [HTL.out]; omega, rfl, HTL.out.symm⟩)) (by omega) (by omega))
        clear hown7 hparts hrp hflat hb7 HC6
        go_wp2_with fail
        refine HC.out.mono ?_
        rintro e w8 ⟨v8, rfl, hown8, hb8⟩
        obtain ⟨A8, c8, rfl, _, _, _⟩ := own_rd hown8
        have B8 := Lib.hid (B7.out.trans (hb8.mono B7.out.size))
        clear hown8 hb8 HC
        go_wp2
        go_ret
        exact ⟨ret_boolR (by simp), B8.out⟩
end Go.Proofs.YtllkjlfjoadifaaDoor
