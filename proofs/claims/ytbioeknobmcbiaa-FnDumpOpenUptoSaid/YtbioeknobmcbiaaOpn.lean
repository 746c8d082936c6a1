/-
  What is proved here: the walk of FnDumpOpen: it returns true. Conditions: at most 1048576 bytes and parts.
-/
import Derived.Test.YtbioeknobmcbiaaSpw
namespace Go.Proofs.Ytbioeknobmcbiaa
open Go.RowKit

theorem open_str (all : List UInt8) {X Y : ByteArray} (hX : bstr (openFrom 0 all) = X) (hY : bstr (dumpFrom 0 all) = Y) : X.size ≤ Y.size ∧ Y.extract 0 X.size = X ∧ 79 * (all.length / 16) ≤ X.size ∧ X.size ≤ 100 * all.length := by
  subst hX; subst hY
  have e := dump_close all
  refine ⟨?_, ?_, ?_, ?_⟩
  · rw [bstr_size, bstr_size, e, List.length_append]; omega
  · rw [bstr_ext, bstr_size, e, List.take_left, List.drop_zero]
  · rw [bstr_size]; exact open_len_ge all
  · rw [bstr_size]; exact open_length 0 all

set_option maxHeartbeats 2000000 in
set_option maxRecDepth 100000 in
theorem walkFnDumpOpen (A : Option Addr) (c : Nat) (ps : List Value) (bss : List (List UInt8)) (w : World) (hr : Rd w A ps) (hp : Parts w ps bss) (_hcap : bss.length ≤ c) (_hcm : c ≤ maxLen) (hn : bss.length ≤ 1048576) (hl : bss.flatten.length ≤ 1048576) :
    Calls Try.prog 4 #[.slice A bss.length c] w fun e w' => e = .returned (.bool true) ∧ Below w.heap.size w w' := by
  obtain ⟨all, ha⟩ : ∃ all, bss.flatten = all := ⟨_, rfl⟩
  rw [ha] at hl
  obtain ⟨X, hX⟩ : ∃ X, bstr (openFrom 0 all) = X := ⟨_, rfl⟩
  obtain ⟨Y, hY⟩ : ∃ Y, bstr (dumpFrom 0 all) = Y := ⟨_, rfl⟩
  obtain ⟨h1, h2, h3, h4⟩ := open_str all hX hY
  have HR := Lib.hid hr
  have HP := Lib.hid hp
  have HA := Lib.hid ha
  have HX := Lib.hid hX
  have HY := Lib.hid hY
  have HE := Lib.hid h2
  clear hr hp ha hX hY h2 _hcm _hcap
  go_enter Try.func4, Try.ntmps4
  go_wp2_with fail
  refine (dumpOpen w A c ps bss all HA.out HR.out HP.out (by omega) (by omega)).mono ?_
  rintro e w1 ⟨rfl, hb1⟩
  have B1 := Lib.hid hb1
  clear hb1
  rw [HX.out]
  go_wp2_with fail
  refine (specWritten w1 A c ps bss all HA.out (HR.out.below B1.out) (HP.out.below B1.out) (by omega) (by omega)).mono ?_
  rintro e w2 ⟨rfl, hb2⟩
  have B2 := Lib.hid (B1.out.trans (hb2.mono B1.out.size))
  clear hb2 B1
  rw [HY.out]
  have h2 := HE.out
  have q1 : (X.size : Int) ≤ (Y.size : Int) := by omega
  have q2 : 79 * ((all.length : Int) / 16) ≤ (X.size : Int) := by omega
  go_wp2
  go_ret
  exact ⟨ret_bool (by simp), B2.out⟩
end Go.Proofs.Ytbioeknobmcbiaa
