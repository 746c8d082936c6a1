/-
  What is proved here: the walk of FnDumpBack: it returns true. Conditions: at most 1048576 bytes.
-/
import Derived.Test.YtbioeknobmcbiaaUnd
namespace Go.Proofs.Ytbioeknobmcbiaa
open Go.RowKit

set_option maxHeartbeats 2000000 in
set_option maxRecDepth 100000 in
theorem walkFnDumpBack (A : Option Addr) (c : Nat) (data : List UInt8) (w : World) (hr : Rd w A (bc data)) (hcap : data.length ≤ c) (hl : data.length ≤ 1048576) :
    Calls Try.prog 7 #[.slice A data.length c] w fun e w' => e = .returned (.bool true) ∧ Below w.heap.size w w' := by
  have HR := Lib.hid hr
  clear hr
  go_enter Try.func7, Try.ntmps7
  go_wp2_with fail
  refine (dump_ w A c data HR.out hcap (by omega)).mono ?_
  rintro e w1 ⟨rfl, hb1⟩
  have B1 := Lib.hid hb1
  clear hb1
  go_wp2_with fail
  refine (undump w1 data (by omega)).mono ?_
  rintro e w2 ⟨v2, rfl, hown2, hb2⟩
  obtain ⟨A2, c2, rfl, _, _, hr2⟩ := own_rd hown2
  have B2 := Lib.hid (B1.out.trans (hb2.mono B1.out.size))
  have hcv := conv_string hr2 c2
  have hcv2 := conv_string (HR.out.below B2.out) c
  clear hown2 hb2 hr2
  go_wp2
  go_ret
  exact ⟨ret_bool (by simp), B2.out⟩
end Go.Proofs.Ytbioeknobmcbiaa
