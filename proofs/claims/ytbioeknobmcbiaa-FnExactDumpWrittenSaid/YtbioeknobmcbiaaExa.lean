/-
  What is proved here: what the measuring, copying and comparing helpers of the exact law of DumpWritten do. Conditions: lengths of at most 16777216 where something is copied.
-/
import Derived.Test.YtbioeknobmcbiaaSpw
import Derived.Deep.QuietTactic
import Derived.BigQuiet
namespace Go.Proofs.Ytbioeknobmcbiaa
open Go.RowKit

theorem below_drewN' {B : Nat} {a w : World} (h : Below B a w) (q : Nat) : Below B a (w.drewN q) := ⟨h.os, h.tape, h.output, h.size, h.block⟩
theorem at_lt {α : Type} {xs : List α} {k : Nat} (h : k < xs.length) : ∃ u, xs[k]? = some u := ⟨xs[k], List.getElem?_eq_getElem h⟩

theorem set_append {α : Type} {xs ys : List α} {k : Nat} {u : α} (hu : xs[k]? = some u) (hl : ys.length = xs.length) : ((xs.take k ++ ys.drop k).set k u) = xs.take (k + 1) ++ ys.drop (k + 1) := by
  have hk : k < xs.length := by
    rcases Nat.lt_or_ge k xs.length with h | h
    · exact h
    · rw [List.getElem?_eq_none h] at hu; cases hu
  rw [List.set_append_right _ _ (by rw [List.length_take]; omega), List.length_take, Nat.min_eq_left (by omega), Nat.sub_self, List.take_add_one, hu]
  rw [List.drop_eq_getElem_cons (show k < ys.length by omega), List.set_cons_zero]
  simp only [Option.toList_some, List.append_assoc, List.singleton_append]

set_option maxHeartbeats 2000000 in
set_option maxRecDepth 100000 in
theorem toByte (A : Option Addr) (c : Nat) (xs : List Value) (w : World) (hr : Rd w A xs) (hx : ∀ u ∈ xs, ∃ z : Int, u = .int .u8 z) (hl : xs.length ≤ 16777216) :
    Calls Try.prog 27 #[.slice A xs.length c] w fun e w' => ∃ v', e = .returned v' ∧ w'.ownsRow w.heap.size 5 1 v' xs.length xs ∧ Below w.heap.size w w' := by
  obtain ⟨i0, hi, hz0, hz1, hz2⟩ := info_parts info_u8
  have hmk : ∀ u : World, (Instr.makeSlice 25 (.int .i64 (xs.length : Int)) (.int .i64 (xs.length : Int))).run Try.prog u =
      .ok (.slice (some ⟨u.heap.size, 0, none⟩) xs.length xs.length) (u.alloc (.cells (madeCells #[.int .u8 0] xs.length) 5)) := fun u => by
    have h := run_make (P := Try.prog) u 25 5 i0 (.int .u8 0) Try.underlying25 hi hz0 .i64 .i64 (xs.length : Int) (xs.length : Int) (by omega) (Int.le_refl _) (by rw [hz2]; omega) (by omega)
    rw [Int.toNat_natCast] at h
    simpa [hz1, Value.cells] using h
  have hst : (w.alloc (.cells (madeCells #[.int .u8 0] xs.length) 5)).ownsRow w.heap.size 5 1 (.slice (some ⟨w.heap.size, 0, none⟩) xs.length xs.length) xs.length (List.replicate xs.length (.int .u8 0)) := by
    have h := World.ownsRow_lit (e := 5) (size := 1) w (madeCells #[.int .u8 0] xs.length) xs.length (Nat.le_refl _) (by unfold maxLen; omega) (by rw [size_madeCells]; omega)
    rwa [toList_madeCells_one] at h
  have hb0 : Below w.heap.size w (w.alloc (.cells (madeCells #[.int .u8 0] xs.length) 5)) := (Below.refl _ _).alloc (Nat.le_refl _) _
  go_enter Try.func27, Try.ntmps27
  go_wp2
  go_loopw [4] (fun i wr => ∃ k : Nat, k ≤ xs.length ∧ i = .int .i64 k ∧ wr.ownsRow w.heap.size 5 1 (.slice (some ⟨w.heap.size, 0, none⟩) xs.length xs.length) xs.length (xs.take k ++ (List.replicate xs.length (.int .u8 0)).drop k) ∧ Below w.heap.size w wr)
    (fun i _ => xs.length - (intOf i).toNat)
  case atStart => exact ⟨0, Nat.zero_le _, rfl, by simpa using hst, hb0⟩
  case round =>
    clear hst hb0 hmk
    obtain ⟨k, hk, rfl, hown, hnx⟩ := hrel
    by_cases hlt : k < xs.length
    · obtain ⟨u, hu⟩ := at_lt hlt
      obtain ⟨z, rfl⟩ := hx u (mem_of_at hu)
      obtain ⟨b, off, rfl, hb, hcell⟩ := (hr.below hnx).at_ hu
      obtain ⟨u2, hc2⟩ : ∃ u2, wr.cell? ⟨w.heap.size, k, none⟩ = some u2 := by
        rw [hown.cellAt k (by omega)]
        exact at_lt (by simp; omega)
      have hf2 := hown.frozenAt k
      have hst := hown.stored k (.int .u8 z)
      have HS : Hid ((wr.setCell ⟨w.heap.size, k, none⟩ (.int .u8 z)).ownsRow w.heap.size 5 1 (.slice (some ⟨w.heap.size, 0, none⟩) xs.length xs.length) xs.length (xs.take (k + 1) ++ (List.replicate xs.length (.int .u8 0)).drop (k + 1))) := by
        have h := hst.1
        rw [set_append hu (by simp)] at h
        exact h
      have HB : Hid (Below w.heap.size w (wr.setCell ⟨w.heap.size, k, none⟩ (.int .u8 z))) := hnx.setCell (p := ⟨w.heap.size, k, none⟩) (Nat.le_refl _) _
      clear hst hu hown
      go_wp2
      go_roundw
      case rel => exact ⟨k + 1, by omega, by go_num, HS.out, HB.out⟩
      case measure => simp [intOf]; omega
    · obtain rfl : k = xs.length := by omega
      go_wp2
      go_ret
      refine ⟨_, rfl, ?_, hnx⟩
      simpa using hown

set_option maxHeartbeats 2000000 in
set_option maxRecDepth 100000 in
theorem eqByte (A A2 : Option Addr) (c c2 : Nat) (xs : List Value) (w : World) (hr : Rd w A xs) (hr2 : Rd w A2 xs) (hx : ∀ u ∈ xs, ∃ z : Int, u = .int .u8 z) (hl : xs.length ≤ 9223372036854775806) :
    Calls Try.prog 28 #[.slice A xs.length c, .slice A2 xs.length c2] w fun e w' => e = .returned (.bool true) ∧ Below w.heap.size w w' := by
  go_enter Try.func28, Try.ntmps28
  go_wp2
  go_loopw [5] (fun i wr => ∃ k : Nat, k ≤ xs.length ∧ i = .int .i64 k ∧ Below w.heap.size w wr)
    (fun i _ => xs.length - (intOf i).toNat)
  case atStart => exact ⟨0, Nat.zero_le _, rfl, Below.refl _ _⟩
  case round =>
    obtain ⟨k, hk, rfl, hnx⟩ := hrel
    by_cases hlt : k < xs.length
    · obtain ⟨u, hu⟩ := at_lt hlt
      obtain ⟨z, rfl⟩ := hx u (mem_of_at hu)
      obtain ⟨b, off, rfl, hb, hcell⟩ := (hr.below hnx).at_ hu
      obtain ⟨b2, off2, rfl, hb2, hcell2⟩ := (hr2.below hnx).at_ hu
      have hki : (k : Int) < (xs.length : Int) := by omega
      have hk0 : (0 : Int) ≤ (k : Int) := by omega
      clear hu
      go_wp2
      go_quiet (fail)
      go_wp2
      go_roundw
      case rel => exact ⟨k + 1, by omega, by go_num, below_drewN' hnx _⟩
      case measure => simp [intOf]; omega
    · obtain rfl : k = xs.length := by omega
      go_wp2
      go_ret
      exact ⟨rfl, hnx⟩

end Go.Proofs.Ytbioeknobmcbiaa
