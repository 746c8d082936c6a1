/-
  What is proved here: the walks of FnListEnds, FnListLength and FnSumLength: each returns true. Conditions: a list has at most 17592186043904 numbers.
-/
import Derived.Test.YtnlndimojibimaaAppend
namespace Go.Proofs.Ytnlndimojibimaa
open Go.RowKit

theorem bc_at {bs : List UInt8} {k : Nat} (h : k < bs.length) : ∃ b, bs[k]? = some b ∧ (bc bs)[k]? = some (.int .u8 (b.toNat : Int)) :=
  ⟨bs[k], List.getElem?_eq_getElem h, by simp [bc, Lib.byteCells, List.getElem?_eq_getElem h]⟩

theorem ret_bool {a b : Bool} (h : a = b) : Ending.returned (.bool a) = .returned (.bool b) := by rw [h]

theorem ends_snoc_lt {l : List UInt8} {b : UInt8} (h : b.toNat < 128) : ends (l ++ [b]) = ends l + 1 := by simp [ends, h]
theorem ends_snoc_ge {l : List UInt8} {b : UInt8} (h : ¬ b.toNat < 128) : ends (l ++ [b]) = ends l := by simp [ends]; omega
theorem ends_le (l : List UInt8) : ends l ≤ l.length := List.countP_le_length

set_option maxHeartbeats 1000000 in
set_option maxRecDepth 100000 in
theorem walkFnListEnds (A : Option Addr) (c : Nat) (zs : List Nat) (w : World) (hr : Rd w A (nc zs)) (hz : ∀ x ∈ zs, x < 18446744073709551616) (hl : zs.length ≤ 17592186043904) :
    Calls Try.prog 5 #[.slice A zs.length c] w fun e w' => e = .returned (.bool true) ∧ Below w.heap.size w w' := by
  go_enter Try.func5, Try.ntmps5
  go_wp2_with (go_at_call 20; refine (appendList A c zs _ hr hz (by omega)).mono ?_; rintro e w1 ⟨v1, rfl, hown1, hb1⟩; obtain ⟨A1, c1, rfl, hn1, hc1, hr1⟩ := own_rd hown1)
  have hE := ends_encL zs
  have hle := encL_length_le zs hz
  generalize encL zs = bs at *
  have HE := Lib.hid hE
  clear hE
  go_loop [3, 9] (fun n i => ∃ k : Nat, k ≤ bs.length ∧ i = .int .i64 k ∧ n = .int .i64 (ends (bs.take k) : Nat)) (fun _ i => bs.length - (intOf i).toNat)
  case atStart => exact ⟨0, Nat.zero_le _, rfl, rfl⟩
  case round =>
    obtain ⟨k, hk, rfl, rfl⟩ := hrel
    by_cases hlt : k < bs.length
    · obtain ⟨b, hx, hcx⟩ := bc_at hlt
      obtain ⟨g, off, rfl, hg, hcell⟩ := hr1.at_ hcx
      have hel := ends_le (bs.take k)
      have hlt' := List.length_take_le k bs
      have HX := Lib.hid (take_snoc hx)
      clear hx hcx
      by_cases h128 : b.toNat < 128
      · have HS := Lib.hid (ends_snoc_lt (l := bs.take k) h128)
        go_wp2
        go_round
        case rel => exact ⟨k + 1, by omega, by go_num, by rw [HX.out, HS.out]; go_num⟩
        case measure => simp [intOf]; omega
      · have HS := Lib.hid (ends_snoc_ge (l := bs.take k) h128)
        go_wp2
        go_round
        case rel => exact ⟨k + 1, by omega, by go_num, by rw [HX.out, HS.out]⟩
        case measure => simp [intOf]; omega
    · obtain rfl : k = bs.length := by omega
      go_wp2
      go_ret
      exact ⟨ret_bool (by simp [HE.out]), hb1⟩

end Go.Proofs.Ytnlndimojibimaa
