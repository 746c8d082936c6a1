/-
  What is proved here: the walks of FnExactAppendList and FnExactAppendSignedList: each returns true. Conditions: the numbers fit 64 bits.
-/
import Derived.Test.YtnlndimojibimaaExact
import Derived.Test.YtnlndimojibimaaSigned
namespace Go.Proofs.Ytnlndimojibimaa
open Go.RowKit

theorem own_ne {w w' : World} {b1 : Nat} {e1 e2 : TypeId} {s1 s2 n1 n2 : Nat} {v1 v2 : Value} {xs1 xs2 : List Value} (h1 : w.ownsRow b1 e1 s1 v1 n1 xs1) (h2 : w'.ownsRow w.heap.size e2 s2 v2 n2 xs2) : v1.ownBlock = none ∨ v1.ownBlock ≠ v2.ownBlock := by
  cases h : v1.ownBlock with
  | none => exact .inl rfl
  | some k =>
    refine .inr fun e => ?_
    have a := (h1.lt k h).2
    have b := (h2.lt k e.symm).1
    omega
theorem own_ne' {w w' : World} {b1 : Nat} {e1 e2 : TypeId} {s1 s2 n1 n2 : Nat} {v1 v2 : Value} {xs1 xs2 : List Value} (h1 : w.ownsRow b1 e1 s1 v1 n1 xs1) (h2 : w'.ownsRow w.heap.size e2 s2 v2 n2 xs2) : v2.ownBlock = none ∨ v2.ownBlock ≠ v1.ownBlock := by
  rcases own_ne h1 h2 with h | h
  · cases h' : v2.ownBlock with
    | none => exact .inl rfl
    | some k => exact .inr (by rw [h]; simp)
  · exact .inr (Ne.symm h)

theorem nc_int (zs : List Nat) : ∀ u ∈ nc zs, ∃ z : Int, u = .int .u64 z := by
  intro u hu
  obtain ⟨x, _, rfl⟩ := List.mem_map.1 hu
  exact ⟨_, rfl⟩
theorem ic_int (zs : List Int) : ∀ u ∈ ic zs, ∃ z : Int, u = .int .i64 z := by
  intro u hu
  obtain ⟨x, _, rfl⟩ := List.mem_map.1 hu
  exact ⟨_, rfl⟩
theorem bc_int (bs : List UInt8) : ∀ u ∈ bc bs, ∃ z : Int, u = .int .u8 z := by
  intro u hu
  obtain ⟨x, _, rfl⟩ := List.mem_map.1 hu
  exact ⟨_, rfl⟩

theorem eqByteL (A A2 : Option Addr) (c c2 : Nat) (bs : List UInt8) (w : World) (hr : Rd w A (bc bs)) (hr2 : Rd w A2 (bc bs)) (hl : bs.length ≤ 9223372036854775806) :
    Calls Try.prog 21 #[.slice A bs.length c, .slice A2 bs.length c2] w fun e w' => e = .returned (.bool true) ∧ Below w.heap.size w w' := by
  have h := eqByte A A2 c c2 (bc bs) w hr hr2 (bc_int bs) (by rw [bc_length]; exact hl)
  rwa [bc_length] at h

theorem eqUint64L (A A2 : Option Addr) (c c2 : Nat) (zs : List Nat) (w : World) (hr : Rd w A (nc zs)) (hr2 : Rd w A2 (nc zs)) (hl : zs.length ≤ 9223372036854775806) :
    Calls Try.prog 22 #[.slice A zs.length c, .slice A2 zs.length c2] w fun e w' => e = .returned (.bool true) ∧ Below w.heap.size w w' := by
  have h := eqUint64 A A2 c c2 (nc zs) w hr hr2 (nc_int zs) (by rw [nc_length]; exact hl)
  rwa [nc_length] at h
theorem toUint64L (A : Option Addr) (c : Nat) (zs : List Nat) (w : World) (hr : Rd w A (nc zs)) (hl : zs.length ≤ 16777216) :
    Calls Try.prog 19 #[.slice A zs.length c] w fun e w' => ∃ v', e = .returned v' ∧ w'.ownsRow w.heap.size 31 1 v' zs.length (nc zs) ∧ Below w.heap.size w w' := by
  have h := toUint64 A c (nc zs) w hr (nc_int zs) (by rw [nc_length]; exact hl)
  rwa [nc_length] at h

set_option maxHeartbeats 4000000 in
set_option maxRecDepth 100000 in
theorem walkFnExactAppendList (A : Option Addr) (c : Nat) (zs : List Nat) (w : World) (hr : Rd w A (nc zs)) (hz : ∀ x ∈ zs, x < 18446744073709551616) (hl : zs.length ≤ 17592186043904) :
    Calls Try.prog 3 #[.slice A zs.length c] w fun e w' => e = .returned (.bool true) ∧ Below w.heap.size w w' := by
  by_cases hbig : 1048576 < zs.length
  · go_enter Try.func3, Try.ntmps3
    go_wp2
    go_ret
    exact ⟨rfl, Below.refl _ _⟩
  · have hle := encL_length_le zs hz
    have hz' := Lib.hid hz
    have hr' := Lib.hid hr
    have hbl : (encL zs).length ≤ 16777216 := by omega
    clear hz hr
    go_enter Try.func3, Try.ntmps3
    go_wp2_with fail
    refine (toUint64L A c zs _ hr'.out (by omega)).mono ?_
    rintro e w1 ⟨v1, rfl, hown1, hb1⟩
    obtain ⟨A1, c1, rfl, _, _, hr1⟩ := own_rd hown1
    have B1 := Lib.hid hb1
    clear hb1 hown1
    go_wp2_with fail
    refine (specList A1 c1 zs _ hr1 hz'.out (by omega)).mono ?_
    rintro e w2 ⟨vw, rfl, hownw, hb2⟩
    obtain ⟨Aw, cw, rfl, _, _, _⟩ := own_rd hownw
    have Ow2 := Lib.hid hownw
    have B2 : Hid (Below w.heap.size w w2) := B1.out.trans (hb2.mono B1.out.size)
    clear hb2 hownw hr1
    go_wp2_with fail
    refine (toUint64L A c zs _ (hr'.out.below B2.out) (by omega)).mono ?_
    rintro e w3 ⟨vx, rfl, hownx, hb3⟩
    obtain ⟨Ax, cx, rfl, _, _, hrx⟩ := own_rd hownx
    have Ox3 := Lib.hid hownx
    have Ow3 := Lib.hid (own_below Ow2.out hb3)
    have B3 : Hid (Below w.heap.size w w3) := B2.out.trans (hb3.mono B2.out.size)
    clear hb3 hownx
    go_wp2_with fail
    refine (appendList Ax cx zs _ hrx hz'.out (by omega)).mono ?_
    rintro e w4 ⟨vg, rfl, howng, hb4⟩
    obtain ⟨Ag, cg, rfl, _, _, hrg⟩ := own_rd howng
    have Og4 := Lib.hid howng
    have Ow4 := Lib.hid (own_below Ow3.out hb4)
    have Ox4 := Lib.hid (own_below Ox3.out hb4)
    have B4 : Hid (Below w.heap.size w w4) := B3.out.trans (hb4.mono B3.out.size)
    clear hb4 howng hrx
    obtain ⟨_, _, ew, _, _, hrw⟩ := own_rd Ow4.out
    cases ew
    go_wp2_with fail
    refine (eqByteL Ag Aw cg cw (encL zs) _ hrg hrw (by omega)).mono ?_
    rintro e w5 ⟨rfl, hb5⟩
    have B45 := Lib.hid hb5
    have B5 : Hid (Below w.heap.size w w5) := B4.out.trans (hb5.mono B4.out.size)
    clear hb5 hrg hrw
    go_wp2_with fail
    refine (toUint64L A c zs _ (hr'.out.below B5.out) (by omega)).mono ?_
    rintro e w6 ⟨vt, rfl, hownt, hb6⟩
    obtain ⟨At, ct, rfl, _, _, hrt⟩ := own_rd hownt
    have B46 : Hid (Below w4.heap.size w4 w6) := B45.out.trans (hb6.mono B45.out.size)
    have B6 : Hid (Below w.heap.size w w6) := B5.out.trans (hb6.mono B5.out.size)
    clear hb6 hownt
    obtain ⟨_, _, ex, _, _, hrx⟩ := own_rd (own_below Ox4.out B46.out)
    cases ex
    go_wp2_with fail
    refine (eqUint64L Ax At cx ct zs _ hrx hrt (by omega)).mono ?_
    rintro e w7 ⟨rfl, hb7⟩
    have B47 : Hid (Below w4.heap.size w4 w7) := B46.out.trans (hb7.mono B46.out.size)
    have B7 : Hid (Below w.heap.size w w7) := B6.out.trans (hb7.mono B6.out.size)
    clear hb7 hrx hrt
    have hox := own_below Ox4.out B47.out
    go_wp2_with fail
    refine (markUint64 _ zs.length _ _ _ hox (by omega)).mono ?_
    rintro e w8 ⟨rfl, hg8⟩
    have Ow8 := Lib.hid ((own_below Ow4.out B47.out).kept hg8 (own_ne Ow2.out Ox3.out))
    have Og8 := Lib.hid ((own_below Og4.out B47.out).kept hg8 (own_ne' Ox3.out Og4.out))
    have B8 : Hid (Below w.heap.size w w8) := B7.out.grown hg8 B7.out.size (fun k hk => Nat.le_trans B2.out.size (Ox3.out.lt k hk).1)
    clear hg8 hox
    obtain ⟨_, _, ew, _, _, hrw⟩ := own_rd Ow8.out
    cases ew
    obtain ⟨_, _, eg, _, _, hrg⟩ := own_rd Og8.out
    cases eg
    go_wp2_with fail
    refine (eqByteL Ag Aw cg cw (encL zs) _ hrg hrw (by omega)).mono ?_
    rintro e w9 ⟨rfl, hb9⟩
    have Ow9 := Lib.hid (own_below Ow8.out hb9)
    have hog := own_below Og8.out hb9
    have B9 : Hid (Below w.heap.size w w9) := B8.out.trans (hb9.mono B8.out.size)
    clear hb9 hrw hrg
    go_wp2_with fail
    refine (markByte _ (encL zs).length _ _ _ hog (by omega)).mono ?_
    rintro e w10 ⟨rfl, hg10, ys, hoy, hmk⟩
    have Ow10 := Lib.hid (Ow9.out.kept hg10 (own_ne Ow3.out Og4.out))
    have B10 : Hid (Below w.heap.size w w10) := B9.out.grown hg10 B9.out.size (fun k hk => Nat.le_trans B3.out.size (Og4.out.lt k hk).1)
    have Oy := Lib.hid hoy
    have HM := Lib.hid hmk
    clear hg10 hog hoy hmk
    obtain ⟨_, _, eg, _, _, hry⟩ := own_rd Oy.out
    cases eg
    go_wp2_with fail
    refine (heldByte Ag cg (encL zs).length ys _ hry HM.out (by omega)).mono ?_
    rintro e w10' ⟨rfl, rfl⟩
    clear hry
    go_wp2_with fail
    refine (toUint64L A c zs _ (hr'.out.below B10.out) (by omega)).mono ?_
    rintro e w11 ⟨vt2, rfl, hownt, hb11⟩
    obtain ⟨At2, ct2, rfl, _, _, hrt2⟩ := own_rd hownt
    have B11 := Lib.hid hb11
    clear hb11 hownt
    go_wp2_with fail
    refine (appendList At2 ct2 zs _ hrt2 hz'.out (by omega)).mono ?_
    rintro e w12 ⟨vh, rfl, hownh, hb12⟩
    obtain ⟨Ah, ch, rfl, _, _, hrh⟩ := own_rd hownh
    have B12 : Hid (Below w10.heap.size w10 w12) := B11.out.trans (hb12.mono B11.out.size)
    clear hb12 hrt2 hownh
    obtain ⟨_, _, ew, _, _, hrw⟩ := own_rd (own_below Ow10.out B12.out)
    cases ew
    go_wp2_with fail
    refine (eqByteL Ah Aw ch cw (encL zs) _ hrh hrw (by omega)).mono ?_
    rintro e w13 ⟨rfl, hb13⟩
    have B13 : Hid (Below w10.heap.size w10 w13) := B12.out.trans (hb13.mono B12.out.size)
    clear hb13 hrh hrw
    obtain ⟨_, _, eg, _, _, hry⟩ := own_rd (own_below Oy.out B13.out)
    cases eg
    go_wp2_with fail
    refine (heldByte Ag cg (encL zs).length ys _ hry HM.out (by omega)).mono ?_
    rintro e w13' ⟨rfl, rfl⟩
    clear hry
    go_wp2
    go_ret
    exact ⟨rfl, B10.out.trans (B13.out.mono B10.out.size)⟩

theorem eqInt64L (A A2 : Option Addr) (c c2 : Nat) (zs : List Int) (w : World) (hr : Rd w A (ic zs)) (hr2 : Rd w A2 (ic zs)) (hl : zs.length ≤ 9223372036854775806) :
    Calls Try.prog 29 #[.slice A zs.length c, .slice A2 zs.length c2] w fun e w' => e = .returned (.bool true) ∧ Below w.heap.size w w' := by
  have h := eqInt64 A A2 c c2 (ic zs) w hr hr2 (ic_int zs) (by rw [ic_length]; exact hl)
  rwa [ic_length] at h
theorem toInt64L (A : Option Addr) (c : Nat) (zs : List Int) (w : World) (hr : Rd w A (ic zs)) (hl : zs.length ≤ 16777216) :
    Calls Try.prog 27 #[.slice A zs.length c] w fun e w' => ∃ v', e = .returned v' ∧ w'.ownsRow w.heap.size 2 1 v' zs.length (ic zs) ∧ Below w.heap.size w w' := by
  have h := toInt64 A c (ic zs) w hr (ic_int zs) (by rw [ic_length]; exact hl)
  rwa [ic_length] at h

set_option maxHeartbeats 4000000 in
set_option maxRecDepth 100000 in
theorem walkFnExactAppendSignedList (A : Option Addr) (c : Nat) (zs : List Int) (w : World) (hr : Rd w A (ic zs)) (hz : ∀ x ∈ zs, -9223372036854775808 ≤ x ∧ x ≤ 9223372036854775807) (hl : zs.length ≤ 17592186043904) :
    Calls Try.prog 9 #[.slice A zs.length c] w fun e w' => e = .returned (.bool true) ∧ Below w.heap.size w w' := by
  by_cases hbig : 1048576 < zs.length
  · go_enter Try.func9, Try.ntmps9
    go_wp2
    go_ret
    exact ⟨rfl, Below.refl _ _⟩
  · have hle := encS_length_le zs hz
    have hz' := Lib.hid hz
    have hr' := Lib.hid hr
    have hbl : (encS zs).length ≤ 16777216 := by omega
    clear hz hr
    go_enter Try.func9, Try.ntmps9
    go_wp2_with fail
    refine (toInt64L A c zs _ hr'.out (by omega)).mono ?_
    rintro e w1 ⟨v1, rfl, hown1, hb1⟩
    obtain ⟨A1, c1, rfl, _, _, hr1⟩ := own_rd hown1
    have B1 := Lib.hid hb1
    clear hb1 hown1
    go_wp2_with fail
    refine (specSigned A1 c1 zs _ hr1 hz'.out (by omega)).mono ?_
    rintro e w2 ⟨vw, rfl, hownw, hb2⟩
    obtain ⟨Aw, cw, rfl, _, _, _⟩ := own_rd hownw
    have Ow2 := Lib.hid hownw
    have B2 : Hid (Below w.heap.size w w2) := B1.out.trans (hb2.mono B1.out.size)
    clear hb2 hownw hr1
    go_wp2_with fail
    refine (toInt64L A c zs _ (hr'.out.below B2.out) (by omega)).mono ?_
    rintro e w3 ⟨vx, rfl, hownx, hb3⟩
    obtain ⟨Ax, cx, rfl, _, _, hrx⟩ := own_rd hownx
    have Ox3 := Lib.hid hownx
    have Ow3 := Lib.hid (own_below Ow2.out hb3)
    have B3 : Hid (Below w.heap.size w w3) := B2.out.trans (hb3.mono B2.out.size)
    clear hb3 hownx
    go_wp2_with fail
    refine (appendSigned Ax cx zs _ hrx hz'.out (by omega)).mono ?_
    rintro e w4 ⟨vg, rfl, howng, hb4⟩
    obtain ⟨Ag, cg, rfl, _, _, hrg⟩ := own_rd howng
    have Og4 := Lib.hid howng
    have Ow4 := Lib.hid (own_below Ow3.out hb4)
    have Ox4 := Lib.hid (own_below Ox3.out hb4)
    have B4 : Hid (Below w.heap.size w w4) := B3.out.trans (hb4.mono B3.out.size)
    clear hb4 howng hrx
    obtain ⟨_, _, ew, _, _, hrw⟩ := own_rd Ow4.out
    cases ew
    go_wp2_with fail
    refine (eqByteL Ag Aw cg cw (encS zs) _ hrg hrw (by omega)).mono ?_
    rintro e w5 ⟨rfl, hb5⟩
    have B45 := Lib.hid hb5
    have B5 : Hid (Below w.heap.size w w5) := B4.out.trans (hb5.mono B4.out.size)
    clear hb5 hrg hrw
    go_wp2_with fail
    refine (toInt64L A c zs _ (hr'.out.below B5.out) (by omega)).mono ?_
    rintro e w6 ⟨vt, rfl, hownt, hb6⟩
    obtain ⟨At, ct, rfl, _, _, hrt⟩ := own_rd hownt
    have B46 : Hid (Below w4.heap.size w4 w6) := B45.out.trans (hb6.mono B45.out.size)
    have B6 : Hid (Below w.heap.size w w6) := B5.out.trans (hb6.mono B5.out.size)
    clear hb6 hownt
    obtain ⟨_, _, ex, _, _, hrx⟩ := own_rd (own_below Ox4.out B46.out)
    cases ex
    go_wp2_with fail
    refine (eqInt64L Ax At cx ct zs _ hrx hrt (by omega)).mono ?_
    rintro e w7 ⟨rfl, hb7⟩
    have B47 : Hid (Below w4.heap.size w4 w7) := B46.out.trans (hb7.mono B46.out.size)
    have B7 : Hid (Below w.heap.size w w7) := B6.out.trans (hb7.mono B6.out.size)
    clear hb7 hrx hrt
    have hox := own_below Ox4.out B47.out
    go_wp2_with fail
    refine (markInt64 _ zs.length _ _ _ hox (by omega)).mono ?_
    rintro e w8 ⟨rfl, hg8⟩
    have Ow8 := Lib.hid ((own_below Ow4.out B47.out).kept hg8 (own_ne Ow2.out Ox3.out))
    have Og8 := Lib.hid ((own_below Og4.out B47.out).kept hg8 (own_ne' Ox3.out Og4.out))
    have B8 : Hid (Below w.heap.size w w8) := B7.out.grown hg8 B7.out.size (fun k hk => Nat.le_trans B2.out.size (Ox3.out.lt k hk).1)
    clear hg8 hox
    obtain ⟨_, _, ew, _, _, hrw⟩ := own_rd Ow8.out
    cases ew
    obtain ⟨_, _, eg, _, _, hrg⟩ := own_rd Og8.out
    cases eg
    go_wp2_with fail
    refine (eqByteL Ag Aw cg cw (encS zs) _ hrg hrw (by omega)).mono ?_
    rintro e w9 ⟨rfl, hb9⟩
    have Ow9 := Lib.hid (own_below Ow8.out hb9)
    have hog := own_below Og8.out hb9
    have B9 : Hid (Below w.heap.size w w9) := B8.out.trans (hb9.mono B8.out.size)
    clear hb9 hrw hrg
    go_wp2_with fail
    refine (markByte _ (encS zs).length _ _ _ hog (by omega)).mono ?_
    rintro e w10 ⟨rfl, hg10, ys, hoy, hmk⟩
    have Ow10 := Lib.hid (Ow9.out.kept hg10 (own_ne Ow3.out Og4.out))
    have B10 : Hid (Below w.heap.size w w10) := B9.out.grown hg10 B9.out.size (fun k hk => Nat.le_trans B3.out.size (Og4.out.lt k hk).1)
    have Oy := Lib.hid hoy
    have HM := Lib.hid hmk
    clear hg10 hog hoy hmk
    obtain ⟨_, _, eg, _, _, hry⟩ := own_rd Oy.out
    cases eg
    go_wp2_with fail
    refine (heldByte Ag cg (encS zs).length ys _ hry HM.out (by omega)).mono ?_
    rintro e w10' ⟨rfl, rfl⟩
    clear hry
    go_wp2_with fail
    refine (toInt64L A c zs _ (hr'.out.below B10.out) (by omega)).mono ?_
    rintro e w11 ⟨vt2, rfl, hownt, hb11⟩
    obtain ⟨At2, ct2, rfl, _, _, hrt2⟩ := own_rd hownt
    have B11 := Lib.hid hb11
    clear hb11 hownt
    go_wp2_with fail
    refine (appendSigned At2 ct2 zs _ hrt2 hz'.out (by omega)).mono ?_
    rintro e w12 ⟨vh, rfl, hownh, hb12⟩
    obtain ⟨Ah, ch, rfl, _, _, hrh⟩ := own_rd hownh
    have B12 : Hid (Below w10.heap.size w10 w12) := B11.out.trans (hb12.mono B11.out.size)
    clear hb12 hrt2 hownh
    obtain ⟨_, _, ew, _, _, hrw⟩ := own_rd (own_below Ow10.out B12.out)
    cases ew
    go_wp2_with fail
    refine (eqByteL Ah Aw ch cw (encS zs) _ hrh hrw (by omega)).mono ?_
    rintro e w13 ⟨rfl, hb13⟩
    have B13 : Hid (Below w10.heap.size w10 w13) := B12.out.trans (hb13.mono B12.out.size)
    clear hb13 hrh hrw
    obtain ⟨_, _, eg, _, _, hry⟩ := own_rd (own_below Oy.out B13.out)
    cases eg
    go_wp2_with fail
    refine (heldByte Ag cg (encS zs).length ys _ hry HM.out (by omega)).mono ?_
    rintro e w13' ⟨rfl, rfl⟩
    clear hry
    go_wp2
    go_ret
    exact ⟨rfl, B10.out.trans (B13.out.mono B10.out.size)⟩

end Go.Proofs.Ytnlndimojibimaa
