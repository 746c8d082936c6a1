/-
  What is proved here: the walk of FnDumpLength: it returns true. Conditions: at most 1048576 bytes.
-/
import Derived.Test.YtbioeknobmcbiaaDump
namespace Go.Proofs.Ytbioeknobmcbiaa
open Go.RowKit

theorem ret_bool {b : Bool} (h : b = true) : Ending.returned (.bool b) = .returned (.bool true) := by rw [h]
theorem bstr_size (l : List UInt8) : (bstr l).size = l.length := by simp [ByteArray.size]

set_option maxHeartbeats 2000000 in
theorem walkFnDumpLength (A : Option Addr) (c : Nat) (data : List UInt8) (w : World) (hr : Rd w A (bc data)) (hcap : data.length ≤ c) (hl : data.length ≤ 1048576) :
    Calls Try.prog 8 #[.slice A data.length c] w fun e w' => e = .returned (.bool true) ∧ Below w.heap.size w w' := by
  have HC := Lib.hid (dump_ w A c data hr hcap (by omega))
  have hlen := dump_len 0 data
  rw [← bstr_size] at hlen
  clear hr
  generalize bstr (dumpFrom 0 data) = X at *
  by_cases h0 : data.length % 16 = 0
  · rw [if_pos h0] at hlen
    have h0i : ¬ (0 : Int) < (data.length : Int) % 16 := by omega
    have HL := Lib.hid hlen
    clear hlen h0
    go_enter Try.func8, Try.ntmps8
    go_wp2_with fail
    refine HC.out.mono ?_
    rintro e w' ⟨rfl, hb⟩
    go_wp2
    go_ret
    refine ⟨ret_bool ?_, hb⟩
    have := HL.out
    simp
    omega
  · rw [if_neg h0] at hlen
    have h0i : (0 : Int) < (data.length : Int) % 16 := by omega
    have HL := Lib.hid hlen
    clear hlen h0
    go_enter Try.func8, Try.ntmps8
    go_wp2_with fail
    refine HC.out.mono ?_
    rintro e w' ⟨rfl, hb⟩
    go_wp2
    go_ret
    refine ⟨ret_bool ?_, hb⟩
    have := HL.out
    simp
    omega
end Go.Proofs.Ytbioeknobmcbiaa
