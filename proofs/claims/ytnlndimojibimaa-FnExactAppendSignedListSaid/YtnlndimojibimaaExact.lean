/-
  What is proved here: what the copying, comparing, marking and holding helpers of the exact laws do. Conditions: lengths of at most 16777216.
-/
import Derived.Test.YtnlndimojibimaaSpec
import Derived.Deep.QuietTactic
import Derived.BigQuiet
namespace Go.Proofs.Ytnlndimojibimaa
open Go.RowKit

theorem ownsRow_drewN {w : World} {base : Nat} {e : TypeId} {size n : Nat} {v : Value} {xs : List Value} (h : w.ownsRow base e size v n xs) (q : Nat) : (w.drewN q).ownsRow base e size v n xs := h
theorem below_drewN' {B : Nat} {a w : World} (h : Below B a w) (q : Nat) : Below B a (w.drewN q) := ⟨h.os, h.tape, h.output, h.size, h.block⟩
theorem at_lt {α : Type} {xs : List α} {k : Nat} (h : k < xs.length) : ∃ u, xs[k]? = some u := ⟨xs[k], List.getElem?_eq_getElem h⟩

theorem set_append {α : Type} {xs ys : List α} {k : Nat} {u : α} (hu : xs[k]? = some u) (hl : ys.length = xs.length) : ((xs.take k ++ ys.drop k).set k u) = xs.take (k + 1) ++ ys.drop (k + 1) := by
  have hk : k < xs.length := by
    rcases Nat.lt_or_ge k xs.length with h | h
    · exact h
    · rw [List.getElem?_eq_none h] at hu; cases hu
  rw [List.set_append_right _ _ (by rw [List.length_take]; omega), List.length_take, Nat.min_eq_left (by omega), Nat.sub_self, List.take_add_one, hu]
  rw [List.drop_eq_getElem_cons (show k < ys.length by omega), List.set_cons_zero]
  simp only [Option.toList_some, List.append_assoc, List.singleton_append]

def Marked (n : Nat) (ys : List Value) : Prop := ∀ j, j < n → ys[j]? = some (.int .u8 (((j + 1) % 256 : Nat) : Int))
theorem marked_zero (ys : List Value) : Marked 0 ys := fun j h => absurd h (by omega)
theorem marked_step {k : Nat} {ys : List Value} (h : Marked k ys) (hk : k < ys.length) : Marked (k + 1) (ys.set k (.int .u8 (((k + 1) % 256 : Nat) : Int))) := by
  intro j hj
  rw [List.getElem?_set]
  by_cases e : k = j
  · subst e; rw [if_pos rfl, if_pos hk]
  · rw [if_neg e]; exact h j (by omega)

theorem info_i64 : (Try.prog.info? 2).map (fun i => (i.zero, i.size, i.bytes)) = some (some (.int .i64 0), 1, 8) := by kernel_rfl

set_option maxHeartbeats 2000000 in
set_option maxRecDepth 100000 in
theorem toUint64 (A : Option Addr) (c : Nat) (xs : List Value) (w : World) (hr : Rd w A xs) (hx : ∀ u ∈ xs, ∃ z : Int, u = .int .u64 z) (hl : xs.length ≤ 16777216) :
    Calls Try.prog 19 #[.slice A xs.length c] w fun e w' => ∃ v', e = .returned v' ∧ w'.ownsRow w.heap.size 31 1 v' xs.length xs ∧ Below w.heap.size w w' := by
  obtain ⟨i0, hi, hz0, hz1, hz2⟩ := info_parts info_u64
  have hmk : ∀ u : World, (Instr.makeSlice 22 (.int .i64 (xs.length : Int)) (.int .i64 (xs.length : Int))).run Try.prog u =
      .ok (.slice (some ⟨u.heap.size, 0, none⟩) xs.length xs.length) (u.alloc (.cells (madeCells #[.int .u64 0] xs.length) 31)) := fun u => by
    have h := run_make (P := Try.prog) u 22 31 i0 (.int .u64 0) Try.underlying22 hi hz0 .i64 .i64 (xs.length : Int) (xs.length : Int) (by omega) (Int.le_refl _) (by rw [hz2]; omega) (by omega)
    rw [Int.toNat_natCast] at h
    simpa [hz1, Value.cells] using h
  have hst : (w.alloc (.cells (madeCells #[.int .u64 0] xs.length) 31)).ownsRow w.heap.size 31 1 (.slice (some ⟨w.heap.size, 0, none⟩) xs.length xs.length) xs.length (List.replicate xs.length (.int .u64 0)) := by
    have h := World.ownsRow_lit (e := 31) (size := 1) w (madeCells #[.int .u64 0] xs.length) xs.length (Nat.le_refl _) (by unfold maxLen; omega) (by rw [size_madeCells]; omega)
    rwa [toList_madeCells_one] at h
  have hb0 : Below w.heap.size w (w.alloc (.cells (madeCells #[.int .u64 0] xs.length) 31)) := (Below.refl _ _).alloc (Nat.le_refl _) _
  go_enter Try.func19, Try.ntmps19
  go_wp2
  go_loopw [4] (fun i wr => ∃ k : Nat, k ≤ xs.length ∧ i = .int .i64 k ∧ wr.ownsRow w.heap.size 31 1 (.slice (some ⟨w.heap.size, 0, none⟩) xs.length xs.length) xs.length (xs.take k ++ (List.replicate xs.length (.int .u64 0)).drop k) ∧ Below w.heap.size w wr)
    (fun i _ => xs.length - (intOf i).toNat)
  case atStart => exact ⟨0, Nat.zero_le _, rfl, by simpa using hst, hb0⟩
  case round =>
    clear hst hb0 hmk
    obtain ⟨k, hk, rfl, hown, hnx⟩ := hrel
    by_cases hlt : k < xs.length
    · obtain ⟨u, hu⟩ := at_lt hlt
      obtain ⟨z, rfl⟩ := hx u (mem_of_at hu)
      obtain ⟨b, off, rfl, hb, hcell⟩ := (hr.below hnx).at_ hu
      obtain ⟨u2, hc2⟩ : ∃ u2, wr.cell? ⟨w.heap.size, k, none⟩ = some u2 := by
        rw [hown.cellAt k (by omega)]
        exact at_lt (by simp; omega)
      have hf2 := hown.frozenAt k
      have hst := hown.stored k (.int .u64 z)
      have HS : Hid ((wr.setCell ⟨w.heap.size, k, none⟩ (.int .u64 z)).ownsRow w.heap.size 31 1 (.slice (some ⟨w.heap.size, 0, none⟩) xs.length xs.length) xs.length (xs.take (k + 1) ++ (List.replicate xs.length (.int .u64 0)).drop (k + 1))) := by
        have h := hst.1
        rw [set_append hu (by simp)] at h
        exact h
      have HB : Hid (Below w.heap.size w (wr.setCell ⟨w.heap.size, k, none⟩ (.int .u64 z))) := hnx.setCell (p := ⟨w.heap.size, k, none⟩) (Nat.le_refl _) _
      clear hst hu hown
      go_wp2
      go_roundw
      case rel => exact ⟨k + 1, by omega, by go_num, HS.out, HB.out⟩
      case measure => simp [intOf]; omega
    · obtain rfl : k = xs.length := by omega
      go_wp2
      go_ret
      refine ⟨_, rfl, ?_, hnx⟩
      simpa using hown

set_option maxHeartbeats 2000000 in
set_option maxRecDepth 100000 in
theorem eqUint64 (A A2 : Option Addr) (c c2 : Nat) (xs : List Value) (w : World) (hr : Rd w A xs) (hr2 : Rd w A2 xs) (hx : ∀ u ∈ xs, ∃ z : Int, u = .int .u64 z) (hl : xs.length ≤ 9223372036854775806) :
    Calls Try.prog 22 #[.slice A xs.length c, .slice A2 xs.length c2] w fun e w' => e = .returned (.bool true) ∧ Below w.heap.size w w' := by
  go_enter Try.func22, Try.ntmps22
  go_wp2
  go_loopw [5] (fun i wr => ∃ k : Nat, k ≤ xs.length ∧ i = .int .i64 k ∧ Below w.heap.size w wr)
    (fun i _ => xs.length - (intOf i).toNat)
  case atStart => exact ⟨0, Nat.zero_le _, rfl, Below.refl _ _⟩
  case round =>
    obtain ⟨k, hk, rfl, hnx⟩ := hrel
    by_cases hlt : k < xs.length
    · obtain ⟨u, hu⟩ := at_lt hlt
      obtain ⟨z, rfl⟩ := hx u (mem_of_at hu)
      obtain ⟨b, off, rfl, hb, hcell⟩ := (hr.below hnx).at_ hu
      obtain ⟨b2, off2, rfl, hb2, hcell2⟩ := (hr2.below hnx).at_ hu
      have hki : (k : Int) < (xs.length : Int) := by omega
      have hk0 : (0 : Int) ≤ (k : Int) := by omega
      clear hu
      go_wp2
      go_quiet (fail)
      go_wp2
      go_roundw
      case rel => exact ⟨k + 1, by omega, by go_num, below_drewN' hnx _⟩
      case measure => simp [intOf]; omega
    · obtain rfl : k = xs.length := by omega
      go_wp2
      go_ret
      exact ⟨rfl, hnx⟩

set_option maxHeartbeats 2000000 in
set_option maxRecDepth 100000 in
theorem markUint64 (base n : Nat) (v : Value) (xs : List Value) (w : World) (hown : w.ownsRow base 31 1 v n xs) (hn : n ≤ 16777216) :
    Calls Try.prog 23 #[v, .int .i64 1] w fun e w' => e = .returned (.int .i64 ((n : Int) + 1)) ∧ w.grownBy w' v.ownBlock := by
  have hxl : xs.length = n := by have := hown.1; omega
  rcases hown.2 with ⟨rfl, rfl⟩ | ⟨g, cap, cur, rfl, hg, hh, hnc, hcm, hrest⟩
  · go_enter Try.func23, Try.ntmps23
    go_wp2
    refine wp_loop_rounds 1 ?_
    rw [rounds_succ]
    go_wp2
    go_ret
    exact ⟨rfl, World.grownBy.refl _ _⟩
  · clear hrest hcm hh
    go_enter Try.func23, Try.ntmps23
    go_wp2
    go_loopw [1, 5] (fun m i wr => ∃ (k : Nat) (ys : List Value), k ≤ n ∧ i = .int .i64 k ∧ m = .int .i64 ((k : Int) + 1) ∧ ys.length = n ∧ wr.ownsRow base 31 1 (.slice (some ⟨g, 0, none⟩) n cap) n ys ∧ w.grownBy wr (some g))
      (fun _ i _ => n - (intOf i).toNat)
    case atStart => exact ⟨0, xs, Nat.zero_le _, rfl, by go_num, hxl, hown, World.grownBy.refl _ _⟩
    case round =>
      clear hown hxl
      obtain ⟨k, ys, hk, rfl, rfl, hyl, hown, hgr⟩ := hrel
      by_cases hlt : k < n
      · obtain ⟨u2, hc2⟩ : ∃ u2, wr.cell? ⟨g, k, none⟩ = some u2 := by
          rw [hown.cellAt k (by omega)]
          exact at_lt (by omega)
        have hf2 := hown.frozenAt k
        have HS := Lib.hid (hown.stored k (.int .u64 ((k : Int) + 1)))
        have HY := Lib.hid hyl
        clear hyl hown
        go_wp2
        go_roundw
        case rel =>
          refine ⟨k + 1, _, by omega, by go_num, by go_num, ?_, HS.out.1, ?_⟩
          · rw [List.length_set]; exact HY.out
          · exact ⟨HS.out.2.os.trans hgr.os, HS.out.2.tape.trans hgr.tape, HS.out.2.output.trans hgr.output, Nat.le_trans hgr.size HS.out.2.size, fun i hi hne => (HS.out.2.block i (Nat.lt_of_lt_of_le hi hgr.size) hne).trans (hgr.block i hi hne)⟩
        case measure => simp [intOf]; omega
      · obtain rfl : k = n := by omega
        go_wp2
        go_ret
        exact ⟨rfl, hgr⟩

set_option maxHeartbeats 2000000 in
set_option maxRecDepth 100000 in
theorem toInt64 (A : Option Addr) (c : Nat) (xs : List Value) (w : World) (hr : Rd w A xs) (hx : ∀ u ∈ xs, ∃ z : Int, u = .int .i64 z) (hl : xs.length ≤ 16777216) :
    Calls Try.prog 27 #[.slice A xs.length c] w fun e w' => ∃ v', e = .returned v' ∧ w'.ownsRow w.heap.size 2 1 v' xs.length xs ∧ Below w.heap.size w w' := by
  obtain ⟨i0, hi, hz0, hz1, hz2⟩ := info_parts info_i64
  have hmk : ∀ u : World, (Instr.makeSlice 34 (.int .i64 (xs.length : Int)) (.int .i64 (xs.length : Int))).run Try.prog u =
      .ok (.slice (some ⟨u.heap.size, 0, none⟩) xs.length xs.length) (u.alloc (.cells (madeCells #[.int .i64 0] xs.length) 2)) := fun u => by
    have h := run_make (P := Try.prog) u 34 2 i0 (.int .i64 0) Try.underlying34 hi hz0 .i64 .i64 (xs.length : Int) (xs.length : Int) (by omega) (Int.le_refl _) (by rw [hz2]; omega) (by omega)
    rw [Int.toNat_natCast] at h
    simpa [hz1, Value.cells] using h
  have hst : (w.alloc (.cells (madeCells #[.int .i64 0] xs.length) 2)).ownsRow w.heap.size 2 1 (.slice (some ⟨w.heap.size, 0, none⟩) xs.length xs.length) xs.length (List.replicate xs.length (.int .i64 0)) := by
    have h := World.ownsRow_lit (e := 2) (size := 1) w (madeCells #[.int .i64 0] xs.length) xs.length (Nat.le_refl _) (by unfold maxLen; omega) (by rw [size_madeCells]; omega)
    rwa [toList_madeCells_one] at h
  have hb0 : Below w.heap.size w (w.alloc (.cells (madeCells #[.int .i64 0] xs.length) 2)) := (Below.refl _ _).alloc (Nat.le_refl _) _
  go_enter Try.func27, Try.ntmps27
  go_wp2
  go_loopw [4] (fun i wr => ∃ k : Nat, k ≤ xs.length ∧ i = .int .i64 k ∧ wr.ownsRow w.heap.size 2 1 (.slice (some ⟨w.heap.size, 0, none⟩) xs.length xs.length) xs.length (xs.take k ++ (List.replicate xs.length (.int .i64 0)).drop k) ∧ Below w.heap.size w wr)
    (fun i _ => xs.length - (intOf i).toNat)
  case atStart => exact ⟨0, Nat.zero_le _, rfl, by simpa using hst, hb0⟩
  case round =>
    clear hst hb0 hmk
    obtain ⟨k, hk, rfl, hown, hnx⟩ := hrel
    by_cases hlt : k < xs.length
    · obtain ⟨u, hu⟩ := at_lt hlt
      obtain ⟨z, rfl⟩ := hx u (mem_of_at hu)
      obtain ⟨b, off, rfl, hb, hcell⟩ := (hr.below hnx).at_ hu
      obtain ⟨u2, hc2⟩ : ∃ u2, wr.cell? ⟨w.heap.size, k, none⟩ = some u2 := by
        rw [hown.cellAt k (by omega)]
        exact at_lt (by simp; omega)
      have hf2 := hown.frozenAt k
      have hst := hown.stored k (.int .i64 z)
      have HS : Hid ((wr.setCell ⟨w.heap.size, k, none⟩ (.int .i64 z)).ownsRow w.heap.size 2 1 (.slice (some ⟨w.heap.size, 0, none⟩) xs.length xs.length) xs.length (xs.take (k + 1) ++ (List.replicate xs.length (.int .i64 0)).drop (k + 1))) := by
        have h := hst.1
        rw [set_append hu (by simp)] at h
        exact h
      have HB : Hid (Below w.heap.size w (wr.setCell ⟨w.heap.size, k, none⟩ (.int .i64 z))) := hnx.setCell (p := ⟨w.heap.size, k, none⟩) (Nat.le_refl _) _
      clear hst hu hown
      go_wp2
      go_roundw
      case rel => exact ⟨k + 1, by omega, by go_num, HS.out, HB.out⟩
      case measure => simp [intOf]; omega
    · obtain rfl : k = xs.length := by omega
      go_wp2
      go_ret
      refine ⟨_, rfl, ?_, hnx⟩
      simpa using hown

set_option maxHeartbeats 2000000 in
set_option maxRecDepth 100000 in
theorem eqInt64 (A A2 : Option Addr) (c c2 : Nat) (xs : List Value) (w : World) (hr : Rd w A xs) (hr2 : Rd w A2 xs) (hx : ∀ u ∈ xs, ∃ z : Int, u = .int .i64 z) (hl : xs.length ≤ 9223372036854775806) :
    Calls Try.prog 29 #[.slice A xs.length c, .slice A2 xs.length c2] w fun e w' => e = .returned (.bool true) ∧ Below w.heap.size w w' := by
  go_enter Try.func29, Try.ntmps29
  go_wp2
  go_loopw [5] (fun i wr => ∃ k : Nat, k ≤ xs.length ∧ i = .int .i64 k ∧ Below w.heap.size w wr)
    (fun i _ => xs.length - (intOf i).toNat)
  case atStart => exact ⟨0, Nat.zero_le _, rfl, Below.refl _ _⟩
  case round =>
    obtain ⟨k, hk, rfl, hnx⟩ := hrel
    by_cases hlt : k < xs.length
    · obtain ⟨u, hu⟩ := at_lt hlt
      obtain ⟨z, rfl⟩ := hx u (mem_of_at hu)
      obtain ⟨b, off, rfl, hb, hcell⟩ := (hr.below hnx).at_ hu
      obtain ⟨b2, off2, rfl, hb2, hcell2⟩ := (hr2.below hnx).at_ hu
      have hki : (k : Int) < (xs.length : Int) := by omega
      have hk0 : (0 : Int) ≤ (k : Int) := by omega
      clear hu
      go_wp2
      go_quiet (fail)
      go_wp2
      go_roundw
      case rel => exact ⟨k + 1, by omega, by go_num, below_drewN' hnx _⟩
      case measure => simp [intOf]; omega
    · obtain rfl : k = xs.length := by omega
      go_wp2
      go_ret
      exact ⟨rfl, hnx⟩

set_option maxHeartbeats 2000000 in
set_option maxRecDepth 100000 in
theorem markInt64 (base n : Nat) (v : Value) (xs : List Value) (w : World) (hown : w.ownsRow base 2 1 v n xs) (hn : n ≤ 16777216) :
    Calls Try.prog 30 #[v, .int .i64 1] w fun e w' => e = .returned (.int .i64 ((n : Int) + 1)) ∧ w.grownBy w' v.ownBlock := by
  have hxl : xs.length = n := by have := hown.1; omega
  rcases hown.2 with ⟨rfl, rfl⟩ | ⟨g, cap, cur, rfl, hg, hh, hnc, hcm, hrest⟩
  · go_enter Try.func30, Try.ntmps30
    go_wp2
    refine wp_loop_rounds 1 ?_
    rw [rounds_succ]
    go_wp2
    go_ret
    exact ⟨rfl, World.grownBy.refl _ _⟩
  · clear hrest hcm hh
    go_enter Try.func30, Try.ntmps30
    go_wp2
    go_loopw [1, 5] (fun m i wr => ∃ (k : Nat) (ys : List Value), k ≤ n ∧ i = .int .i64 k ∧ m = .int .i64 ((k : Int) + 1) ∧ ys.length = n ∧ wr.ownsRow base 2 1 (.slice (some ⟨g, 0, none⟩) n cap) n ys ∧ w.grownBy wr (some g))
      (fun _ i _ => n - (intOf i).toNat)
    case atStart => exact ⟨0, xs, Nat.zero_le _, rfl, by go_num, hxl, hown, World.grownBy.refl _ _⟩
    case round =>
      clear hown hxl
      obtain ⟨k, ys, hk, rfl, rfl, hyl, hown, hgr⟩ := hrel
      by_cases hlt : k < n
      · obtain ⟨u2, hc2⟩ : ∃ u2, wr.cell? ⟨g, k, none⟩ = some u2 := by
          rw [hown.cellAt k (by omega)]
          exact at_lt (by omega)
        have hf2 := hown.frozenAt k
        have HS := Lib.hid (hown.stored k (.int .i64 ((k : Int) + 1)))
        have HY := Lib.hid hyl
        clear hyl hown
        go_wp2
        go_roundw
        case rel =>
          refine ⟨k + 1, _, by omega, by go_num, by go_num, ?_, HS.out.1, ?_⟩
          · rw [List.length_set]; exact HY.out
          · exact ⟨HS.out.2.os.trans hgr.os, HS.out.2.tape.trans hgr.tape, HS.out.2.output.trans hgr.output, Nat.le_trans hgr.size HS.out.2.size, fun i hi hne => (HS.out.2.block i (Nat.lt_of_lt_of_le hi hgr.size) hne).trans (hgr.block i hi hne)⟩
        case measure => simp [intOf]; omega
      · obtain rfl : k = n := by omega
        go_wp2
        go_ret
        exact ⟨rfl, hgr⟩

set_option maxHeartbeats 2000000 in
set_option maxRecDepth 100000 in
theorem eqByte (A A2 : Option Addr) (c c2 : Nat) (xs : List Value) (w : World) (hr : Rd w A xs) (hr2 : Rd w A2 xs) (hx : ∀ u ∈ xs, ∃ z : Int, u = .int .u8 z) (hl : xs.length ≤ 9223372036854775806) :
    Calls Try.prog 21 #[.slice A xs.length c, .slice A2 xs.length c2] w fun e w' => e = .returned (.bool true) ∧ Below w.heap.size w w' := by
  go_enter Try.func21, Try.ntmps21
  go_wp2
  go_loopw [5] (fun i wr => ∃ k : Nat, k ≤ xs.length ∧ i = .int .i64 k ∧ Below w.heap.size w wr)
    (fun i _ => xs.length - (intOf i).toNat)
  case atStart => exact ⟨0, Nat.zero_le _, rfl, Below.refl _ _⟩
  case round =>
    obtain ⟨k, hk, rfl, hnx⟩ := hrel
    by_cases hlt : k < xs.length
    · obtain ⟨u, hu⟩ := at_lt hlt
      obtain ⟨z, rfl⟩ := hx u (mem_of_at hu)
      obtain ⟨b, off, rfl, hb, hcell⟩ := (hr.below hnx).at_ hu
      obtain ⟨b2, off2, rfl, hb2, hcell2⟩ := (hr2.below hnx).at_ hu
      have hki : (k : Int) < (xs.length : Int) := by omega
      have hk0 : (0 : Int) ≤ (k : Int) := by omega
      clear hu
      go_wp2
      go_quiet (fail)
      go_wp2
      go_roundw
      case rel => exact ⟨k + 1, by omega, by go_num, below_drewN' hnx _⟩
      case measure => simp [intOf]; omega
    · obtain rfl : k = xs.length := by omega
      go_wp2
      go_ret
      exact ⟨rfl, hnx⟩

set_option maxHeartbeats 2000000 in
set_option maxRecDepth 100000 in
theorem markByte (base n : Nat) (v : Value) (xs : List Value) (w : World) (hown : w.ownsRow base 5 1 v n xs) (hn : n ≤ 16777216) :
    Calls Try.prog 24 #[v, .int .i64 1] w fun e w' => e = .returned (.int .i64 ((n : Int) + 1)) ∧ w.grownBy w' v.ownBlock ∧ ∃ ys, w'.ownsRow base 5 1 v n ys ∧ Marked n ys := by
  have hxl : xs.length = n := by have := hown.1; omega
  rcases hown.2 with ⟨rfl, rfl⟩ | ⟨g, cap, cur, rfl, hg, hh, hnc, hcm, hrest⟩
  · go_enter Try.func24, Try.ntmps24
    go_wp2
    refine wp_loop_rounds 1 ?_
    rw [rounds_succ]
    go_wp2
    go_ret
    exact ⟨rfl, World.grownBy.refl _ _, xs, hown, marked_zero _⟩
  · clear hrest hcm hh
    go_enter Try.func24, Try.ntmps24
    go_wp2
    go_loopw [1, 5] (fun m i wr => ∃ (k : Nat) (ys : List Value), k ≤ n ∧ i = .int .i64 k ∧ m = .int .i64 ((k : Int) + 1) ∧ ys.length = n ∧ wr.ownsRow base 5 1 (.slice (some ⟨g, 0, none⟩) n cap) n ys ∧ w.grownBy wr (some g) ∧ Marked k ys)
      (fun _ i _ => n - (intOf i).toNat)
    case atStart => exact ⟨0, xs, Nat.zero_le _, rfl, by go_num, hxl, hown, World.grownBy.refl _ _, marked_zero _⟩
    case round =>
      clear hown hxl
      obtain ⟨k, ys, hk, rfl, rfl, hyl, hown, hgr, hmk⟩ := hrel
      by_cases hlt : k < n
      · obtain ⟨u2, hc2⟩ : ∃ u2, wr.cell? ⟨g, k, none⟩ = some u2 := by
          rw [hown.cellAt k (by omega)]
          exact at_lt (by omega)
        have hf2 := hown.frozenAt k
        have HS := Lib.hid (hown.stored k (.int .u8 (((k : Int) + 1) % 256)))
        have HY := Lib.hid hyl
        clear hyl hown
        have HM : Hid (Marked (k + 1) (ys.set k (.int .u8 (((k : Int) + 1) % 256)))) := by
          have h := marked_step hmk (by have := HY.out; omega)
          rwa [show (((k + 1) % 256 : Nat) : Int) = ((k : Int) + 1) % 256 by omega] at h
        clear hmk
        go_wp2
        go_roundw
        case rel =>
          refine ⟨k + 1, _, by omega, by go_num, by go_num, ?_, HS.out.1, ?_, HM.out⟩
          · rw [List.length_set]; exact HY.out
          · exact ⟨HS.out.2.os.trans hgr.os, HS.out.2.tape.trans hgr.tape, HS.out.2.output.trans hgr.output, Nat.le_trans hgr.size HS.out.2.size, fun i hi hne => (HS.out.2.block i (Nat.lt_of_lt_of_le hi hgr.size) hne).trans (hgr.block i hi hne)⟩
        case measure => simp [intOf]; omega
      · obtain rfl : k = n := by omega
        go_wp2
        go_ret
        exact ⟨rfl, hgr, ys, hown, hmk⟩

set_option maxHeartbeats 2000000 in
set_option maxRecDepth 100000 in
theorem heldByte (A : Option Addr) (c n : Nat) (ys : List Value) (w : World) (hr : Rd w A ys) (hm : Marked n ys) (hn : n ≤ 16777216) :
    Calls Try.prog 25 #[.slice A n c, .int .i64 1] w fun e w' => e = .returned (.int .i64 ((n : Int) + 1)) ∧ w = w' := by
  go_enter Try.func25, Try.ntmps25
  go_wp2
  go_loop [1, 5] (fun m i => ∃ k : Nat, k ≤ n ∧ i = .int .i64 k ∧ m = .int .i64 ((k : Int) + 1)) (fun _ i => n - (intOf i).toNat)
  case atStart => exact ⟨0, Nat.zero_le _, rfl, by go_num⟩
  case round =>
    obtain ⟨k, hk, rfl, rfl⟩ := hrel
    by_cases hlt : k < n
    · obtain ⟨b, off, rfl, hb, hcell⟩ := hr.at_ (hm k hlt)
      have hz : (((k + 1) % 256 : Nat) : Int) = ((k : Int) + 1) % 256 := by omega
      rw [hz] at hcell
      clear hz
      go_wp2
      go_round
      case rel => exact ⟨k + 1, by omega, by go_num, by go_num⟩
      case measure => simp [intOf]; omega
    · obtain rfl : k = n := by omega
      go_wp2
      go_ret
      exact ⟨rfl, rfl⟩

end Go.Proofs.Ytnlndimojibimaa
