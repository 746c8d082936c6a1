/-
  What is proved here: laws.sameNumbers answers true at two slices that read alike. Conditions: none but that they read.
-/
import Derived.Test.YtllkjlfjoadifaaDoorCodes
namespace Go.Proofs.YtllkjlfjoadifaaDoor
open Go.RowKit

set_option maxHeartbeats 2000000 in
set_option maxRecDepth 100000 in
theorem sameNumbers (A A2 : Option Addr) (c c2 : Nat) (zs : List Nat) (w : World) (hr : Rd w A (nc zs)) (hr2 : Rd w A2 (nc zs)) (hl : zs.length ≤ 9223372036854775806) :
    Calls Tryd.prog 16 #[.slice A zs.length c, .slice A2 zs.length c2] w fun e w' => e = .returned (.bool true) ∧ Below w.heap.size w w' := by
  go_enter Tryd.func16, Tryd.ntmps16
  go_wp2
  go_loopw [13] (fun i wr => ∃ k : Nat, k ≤ zs.length ∧ i = .int .i64 k ∧ Below w.heap.size w wr)
    (fun i _ => zs.length - (intOf i).toNat)
  case atStart => exact ⟨0, Nat.zero_le _, rfl, Below.refl _ _⟩
  case round =>
    obtain ⟨k, hk, rfl, hnx⟩ := hrel
    by_cases hlt : k < zs.length
    · obtain ⟨x, hx, hcx⟩ := nc_at hlt
      obtain ⟨b, off, rfl, hb, hcell⟩ := (hr.below hnx).at_ hcx
      obtain ⟨b2, off2, rfl, hb2, hcell2⟩ := (hr2.below hnx).at_ hcx
      have hki : (k : Int) < (zs.length : Int) := by omega
      have hk0 : (0 : Int) ≤ (k : Int) := by omega
      clear hx hcx
      go_wp2
      go_quiet (fail)
      go_wp2
      go_roundw
      case rel => exact ⟨k + 1, by omega, by go_num, below_dn hnx _⟩
      case measure => simp [intOf]; omega
    · obtain rfl : k = zs.length := by omega
      go_wp2
      go_ret
      exact ⟨rfl, hnx⟩

/-- codes of numbers -/
def codesOf (zs : List Nat) : List (List UInt8) := zs.map Lib.uvarint
theorem codesOf_length (zs : List Nat) : (codesOf zs).length = zs.length := by simp [codesOf]
theorem codesOf_flat (zs : List Nat) : (codesOf zs).flatten = encL zs := by simp [codesOf, encL, List.flatMap]
theorem codesOf_code {zs : List Nat} (h : ∀ x ∈ zs, x < 18446744073709551616) : ∀ c ∈ codesOf zs, Code c := by
  intro c hc
  obtain ⟨x, hx, rfl⟩ := List.mem_map.1 hc
  exact code_uvarint (h x hx)
theorem codesOf_nums (zs : List Nat) : numsU (codesOf zs) = nc zs := by
  unfold numsU codesOf
  rw [List.map_map]
  congr 1
  conv => rhs; rw [← List.map_id zs]
  exact List.map_congr_left fun x _ => uval_uvarint x
theorem unzigR (y : Int) : Lib.unzigzag (Lib.zigzag y) = y := by
  unfold Lib.unzigzag Lib.zigzag
  split <;> split <;> omega
theorem codesOf_numsS (zs : List Int) : numsS (codesOf (zs.map Lib.zigzag)) = ic zs := by
  unfold numsS codesOf
  rw [List.map_map, List.map_map]
  congr 1
  conv => rhs; rw [← List.map_id zs]
  refine List.map_congr_left fun x _ => ?_
  show Lib.unzigzag (uval (Lib.uvarint (Lib.zigzag x))) = x
  rw [uval_uvarint, unzigR]
end Go.Proofs.YtllkjlfjoadifaaDoor
