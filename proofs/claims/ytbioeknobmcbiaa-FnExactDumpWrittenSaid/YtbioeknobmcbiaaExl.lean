/-
  What is proved here: the walk of FnExactDumpWritten: it returns true. Conditions: none on the sizes but those of a slice (the law itself leaves what is larger than 1048576).
-/
import Derived.Test.YtbioeknobmcbiaaExb
import Derived.StillTailTactics
namespace Go.Proofs.Ytbioeknobmcbiaa
open Go.RowKit

/-- eqByteS, at bytes -/
theorem eqByteN {w : World} {A A2 : Option Addr} {c c2 n : Nat} {bs : List UInt8} (hn : bs.length = n) (hr : Rd w A (bc bs)) (hr2 : Rd w A2 (bc bs)) (hl : n ≤ 9223372036854775806) :
    Calls Try.prog 28 #[.slice A n c, .slice A2 n c2] w fun e w' => e = .returned (.bool true) ∧ Below w.heap.size w w' := by
  have h := eqByte A A2 c c2 (bc bs) w hr hr2 (bc_ints bs) (by rw [bc_length, hn]; exact hl)
  rwa [bc_length, hn] at h

set_option maxHeartbeats 2000000 in
set_option maxRecDepth 100000 in
theorem eqSS (w : World) (A A2 : Option Addr) (c c2 : Nat) (ps qs : List Value) (bss : List (List UInt8)) (hr : Rd w A ps) (hp : Parts w ps bss) (hr2 : Rd w A2 qs) (hp2 : Parts w qs bss) (hn : bss.length ≤ 1048576) (ht : bss.flatten.length ≤ 1048576) :
    Calls Try.prog 19 #[.slice A bss.length c, .slice A2 bss.length c2] w fun e w' => e = .returned (.bool true) ∧ Below w.heap.size w w' := by
  obtain ⟨n, hnn⟩ : ∃ n, bss.length = n := ⟨_, rfl⟩
  rw [hnn] at hn
  rw [hnn]
  have HN := Lib.hid hnn
  have HR := Lib.hid hr
  have HP := Lib.hid hp
  have HR2 := Lib.hid hr2
  have HP2 := Lib.hid hp2
  have HTT := Lib.hid ht
  clear hnn hr hp hr2 hp2 ht
  go_enter Try.func19, Try.ntmps19
  go_wp2
  go_loopw [5] (fun i wr => ∃ k : Nat, k ≤ n ∧ i = .int .i64 k ∧ Below w.heap.size w wr) (fun i _ => n - (intOf i).toNat)
  case atStart => exact ⟨0, Nat.zero_le _, rfl, Below.refl _ _⟩
  case round =>
    obtain ⟨k, hk, rfl, hbw⟩ := hrel
    have HB := Lib.hid hbw
    clear hbw
    by_cases hlt : k < n
    · obtain ⟨bs, hbs⟩ : ∃ bs, bss[k]? = some bs := ⟨_, List.getElem?_eq_getElem (by rw [HN.out]; exact hlt)⟩
      obtain ⟨Ak, ck, hpk, _, _, hrk⟩ := HP.out.2 k bs hbs
      obtain ⟨Ak2, ck2, hpk2, _, _, hrk2⟩ := HP2.out.2 k bs hbs
      obtain ⟨bp, op, rfl, hbp, hcell⟩ := (HR.out.below HB.out).at_ hpk
      obtain ⟨bp2, op2, rfl, hbp2, hcell2⟩ := (HR2.out.below HB.out).at_ hpk2
      have hki0 : (0 : Int) ≤ (k : Int) := by omega
      have hki : (k : Int) < (n : Int) := by omega
      have hbl : bs.length ≤ 1048576 := by
        have h1 := sumTo_le bss (k + 1)
        rw [sumTo_succ hbs] at h1
        have h2 := HTT.out
        omega
      obtain ⟨len, hlen⟩ : ∃ len, bs.length = len := ⟨_, rfl⟩
      rw [hlen] at hcell hcell2 hbl
      have HCALL := Lib.hid (eqByteN (w := wr.drew) (A := Ak) (A2 := Ak2) (c := ck) (c2 := ck2) hlen (hrk.below (below_dr1 HB.out)) (hrk2.below (below_dr1 HB.out)) (by omega))
      have B2 := Lib.hid (below_dr1 HB.out)
      clear hbs hpk hrk hpk2 hrk2 hlen
      go_wp2
      go_still_tail 8, (by kernel_rfl)
      go_wp2_with fail
      refine HCALL.out.mono ?_
      rintro e w2 ⟨rfl, hb2⟩
      have B3 := Lib.hid (B2.out.trans (hb2.mono B2.out.size))
      clear hb2 hcell hcell2
      go_wp2
      go_roundw
      case rel => exact ⟨k + 1, by omega, by go_num, B3.out⟩
      case measure => simp [intOf]; omega
    · obtain rfl : k = n := by omega
      go_wp2
      go_ret
      exact ⟨rfl, HB.out⟩

set_option maxHeartbeats 2000000 in
set_option maxRecDepth 100000 in
theorem walkFnExactDumpWritten (A : Option Addr) (c : Nat) (ps : List Value) (bss : List (List UInt8)) (w : World) (hr : Rd w A ps) (hp : Parts w ps bss) (hcap : bss.length ≤ c) (hcm : c ≤ maxLen) :
    Calls Try.prog 6 #[.slice A bss.length c] w fun e w' => e = .returned (.bool true) ∧ Below w.heap.size w w' := by
  have HSZ := Lib.hid (szSS w A c ps bss hr hp hcap hcm)
  obtain ⟨all, ha⟩ : ∃ all, bss.flatten = all := ⟨_, rfl⟩
  obtain ⟨X, hX⟩ : ∃ X, bstr (dumpFrom 0 all) = X := ⟨_, rfl⟩
  have HR := Lib.hid hr
  have HP := Lib.hid hp
  have HA := Lib.hid ha
  have HX := Lib.hid hX
  clear hr hp ha hX hcap hcm
  go_enter Try.func6, Try.ntmps6
  go_wp2_with fail
  refine HSZ.out.mono ?_
  rintro e w0 ⟨rfl, hcase⟩
  clear HSZ
  rcases hcase with ⟨rfl, hfit⟩ | ⟨rfl, _⟩
  · obtain ⟨left, hleft⟩ : ∃ left : Nat, 1048576 - bss.length - bss.flatten.length = left := ⟨_, rfl⟩
    rw [hleft]
    clear hleft
    have hn : bss.length ≤ 1048576 := by omega
    have HT := Lib.hid (show bss.flatten.length ≤ 1048576 by omega)
    have hal : all.length ≤ 1048576 := by rw [← HA.out]; exact HT.out
    clear hfit
    go_wp2_with fail
    refine (toSS w A c ps bss HR.out HP.out hn HT.out).mono ?_
    rintro e w1 ⟨A1, c1, q1, rfl, hr1, hp1, hb1⟩
    have B1 := Lib.hid hb1
    have HR1 := Lib.hid hr1
    have HP1 := Lib.hid hp1
    clear hb1 hr1 hp1
    go_wp2_with fail
    refine (specWritten w1 A1 c1 q1 bss all HA.out HR1.out HP1.out (by omega) (by omega)).mono ?_
    rintro e w2 ⟨rfl, hb2⟩
    have B2 := Lib.hid (B1.out.trans (hb2.mono B1.out.size))
    clear hb2 B1 HR1 HP1
    rw [HX.out]
    go_wp2_with fail
    refine (toSS w2 A c ps bss (HR.out.below B2.out) (HP.out.below B2.out) hn HT.out).mono ?_
    rintro e w3 ⟨A3, c3, q3, rfl, hr3, hp3, hb3⟩
    have B3 := Lib.hid (B2.out.trans (hb3.mono B2.out.size))
    have HR3 := Lib.hid hr3
    have HP3 := Lib.hid hp3
    clear hb3 B2 hr3 hp3
    go_wp2_with fail
    refine (dumpWritten w3 A3 c3 q3 bss all HA.out HR3.out HP3.out (by omega) (by omega)).mono ?_
    rintro e w4 ⟨rfl, hb4⟩
    have B4 := Lib.hid (B3.out.trans (hb4.mono B3.out.size))
    have HR4 := Lib.hid (HR3.out.below hb4)
    have HP4 := Lib.hid (HP3.out.below hb4)
    clear hb4 B3 HR3 HP3
    rw [HX.out]
    go_wp2_with fail
    refine (toSS w4 A c ps bss (HR.out.below B4.out) (HP.out.below B4.out) hn HT.out).mono ?_
    rintro e w5 ⟨A5, c5, q5, rfl, hr5, hp5, hb5⟩
    have B5 := Lib.hid (B4.out.trans (hb5.mono B4.out.size))
    have HC := Lib.hid (eqSS w5 A3 A5 c3 c5 q3 q5 bss (HR4.out.below hb5) (HP4.out.below hb5) hr5 hp5 hn HT.out)
    clear hb5 B4 HR4 HP4 hr5 hp5
    go_wp2_with fail
    refine HC.out.mono ?_
    rintro e w6 ⟨rfl, hb6⟩
    have B6 := Lib.hid (B5.out.trans (hb6.mono B5.out.size))
    clear hb6
    go_wp2
    go_ret
    exact ⟨rfl, B6.out⟩
  · go_wp2
    go_ret
    exact ⟨rfl, Below.refl _ _⟩
end Go.Proofs.Ytbioeknobmcbiaa
