/-
  What is proved here: the walk of FnDumpRoads: it returns true. Conditions: at most 1048576 bytes and parts.
-/
import Derived.Test.YtbioeknobmcbiaaAll
import Derived.Test.YtbioeknobmcbiaaLen
namespace Go.Proofs.Ytbioeknobmcbiaa
open Go.RowKit

theorem dump_nonempty {a : Nat} {ds : List UInt8} (h : ds.length ≠ 0) : 0 < (dumpFrom a ds).length := by
  rw [dump_len]; split <;> omega

set_option maxHeartbeats 2000000 in
set_option maxRecDepth 100000 in
theorem walkFnDumpRoads (A : Option Addr) (c : Nat) (ps : List Value) (bss : List (List UInt8)) (w : World) (hr : Rd w A ps) (hp : Parts w ps bss) (_hcap : bss.length ≤ c) (_hcm : c ≤ maxLen) (hn : bss.length ≤ 1048576) (hl : bss.flatten.length ≤ 1048576) :
    Calls Try.prog 3 #[.slice A bss.length c] w fun e w' => e = .returned (.bool true) ∧ Below w.heap.size w w' := by
  obtain ⟨all, ha⟩ : ∃ all, bss.flatten = all := ⟨_, rfl⟩
  rw [ha] at hl
  have HR := Lib.hid hr
  have HP := Lib.hid hp
  have HA := Lib.hid ha
  obtain ⟨X, hX⟩ : ∃ X, bstr (dumpFrom 0 all) = X := ⟨_, rfl⟩
  have HX := Lib.hid hX
  clear hr hp ha hX _hcm _hcap
  go_enter Try.func3, Try.ntmps3
  go_wp2_with fail
  refine (dumpWritten w A c ps bss all HA.out HR.out HP.out (by omega) (by omega)).mono ?_
  rintro e w1 ⟨rfl, hb1⟩
  have B1 := Lib.hid hb1
  clear hb1
  rw [HX.out]
  go_wp2_with fail
  refine (all_ w1 A c ps bss all HA.out (HR.out.below B1.out) (HP.out.below B1.out) (by omega) (by omega)).mono ?_
  rintro e w2 ⟨v2, rfl, hown2, hb2⟩
  obtain ⟨A2, c2, rfl, hc2, _, hr2⟩ := own_rd hown2
  have B2 := Lib.hid (B1.out.trans (hb2.mono B1.out.size))
  have HR2 := Lib.hid hr2
  clear hown2 hb2 hr2
  go_wp2_with fail
  refine (dump_ w2 A2 c2 all HR2.out hc2 (by omega)).mono ?_
  rintro e w3 ⟨rfl, hb3⟩
  have B3 := Lib.hid (B2.out.trans (hb3.mono B2.out.size))
  clear hb3
  rw [HX.out]
  by_cases h0 : all.length = 0
  · have hx0 : X = ⟨#[]⟩ := by rw [← HX.out, List.eq_nil_of_length_eq_zero h0, dump_nil]
    subst hx0
    go_wp2
    go_ret
    exact ⟨ret_bool (by simp), B3.out⟩
  · have hxs : 0 < X.size := by rw [← HX.out, bstr_size]; exact dump_nonempty h0
    have hx1 : X.toList ≠ [] := by
      rw [ByteArray.toList_eq]
      intro e
      have h2 : X.data.toList.length = 0 := by rw [e]; rfl
      rw [Array.length_toList] at h2
      have h3 : X.size = X.data.size := rfl
      omega
    have hie : X.toList.isEmpty = false := by cases h : X.toList with | nil => exact absurd h hx1 | cons _ _ => rfl
    have hia : ((all.length : Int) == 0) = false := by rw [beq_eq_false_iff_ne]; omega
    go_wp2
    go_ret
    refine ⟨ret_bool ?_, B3.out⟩
    simp
end Go.Proofs.Ytbioeknobmcbiaa
