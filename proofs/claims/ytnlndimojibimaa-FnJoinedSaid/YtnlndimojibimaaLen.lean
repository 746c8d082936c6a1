/-
  What is proved here: the walks of FnListLength and FnSumLength: each returns true. Conditions: a list has at most 17592186043904 numbers.
-/
import Derived.Test.YtnlndimojibimaaEnds
namespace Go.Proofs.Ytnlndimojibimaa
open Go.RowKit

set_option maxHeartbeats 2000000 in
set_option maxRecDepth 100000 in
theorem walkFnListLength (A : Option Addr) (c : Nat) (zs : List Nat) (w : World) (hr : Rd w A (nc zs)) (hz : ∀ x ∈ zs, x < 18446744073709551616) (hl : zs.length ≤ 17592186043904) :
    Calls Try.prog 6 #[.slice A zs.length c] w fun e w' => e = .returned (.bool true) ∧ Below w.heap.size w w' := by
  go_enter Try.func6, Try.ntmps6
  go_wp2
  go_loop [3, 8] (fun n i => ∃ k : Nat, k ≤ zs.length ∧ i = .int .i64 k ∧ n = .int .i64 ((encL (zs.take k)).length : Nat)) (fun _ i => zs.length - (intOf i).toNat)
  case atStart => exact ⟨0, Nat.zero_le _, rfl, rfl⟩
  case round =>
    obtain ⟨k, hk, rfl, rfl⟩ := hrel
    by_cases hlt : k < zs.length
    · obtain ⟨x, hx, hcx⟩ := nc_at hlt
      obtain ⟨b, off, rfl, hb, hcell⟩ := hr.at_ hcx
      have hx64 := hz x (mem_of_at hx)
      have hlen := encL_length_le (zs.take k) (fun y hy => hz y (List.mem_of_mem_take hy))
      have hlt' := List.length_take_le k zs
      have hul := Lib.uvarint_length64 hx64
      have HX : Hid ((encL (zs.take (k + 1))).length = (encL (zs.take k)).length + (Lib.uvarint x).length) := by rw [take_snoc hx, encL_snoc, List.length_append]; rfl
      clear hx hcx
      generalize (encL (zs.take k)).length = L at *
      go_wp2
      go_loop [3, 5] (fun n v => ∃ m y : Nat, v = .int .u64 y ∧ y ≤ x ∧ n = .int .i64 m ∧ m + (Lib.uvarint y).length = L + 1 + (Lib.uvarint x).length) (fun _ v => (intOf v).toNat)
      case atStart => exact ⟨L + 1, x, rfl, Nat.le_refl _, by go_num, by omega⟩
      case round =>
        obtain ⟨m, y, rfl, hyx, rfl, hm⟩ := hrel
        have hyp := Lib.uvarint_pos y
        have HM := Lib.hid hm
        have hml : m ≤ L + 11 := by omega
        clear hm
        by_cases h128 : 128 ≤ y
        · have HB : Hid ((Lib.uvarint y).length = (Lib.uvarint (y / 128)).length + 1) := by rw [Lib.uvarint_big h128]; rfl
          go_wp2
          go_round
          case rel => exact ⟨m + 1, y / 128, by go_num, by omega, by go_num, by have h1 := HB.out; have h2 := HM.out; omega⟩
          case measure => simp [intOf]; omega
        · have HB : Hid ((Lib.uvarint y).length = 1) := by rw [Lib.uvarint_small (by omega)]; rfl
          go_wp2
          go_round
          case rel => exact ⟨k + 1, by omega, by go_num, by have h1 := HB.out; have h2 := HM.out; rw [HX.out]; congr 2; omega⟩
          case measure => simp [intOf]; omega
    · obtain rfl : k = zs.length := by omega
      go_wp2_with (go_at_call 20; refine (appendList A c zs _ hr hz (by omega)).mono ?_; rintro e w1 ⟨v1, rfl, hown1, hb1⟩; obtain ⟨A1, c1, rfl, hn1, hc1, hr1⟩ := own_rd hown1)
      go_ret
      exact ⟨ret_bool (by simp), hb1⟩

theorem rd_new {w : World} {xs : Array Value} {e : TypeId} : Rd (w.alloc (.cells xs e)) (some ⟨w.heap.size, 0, none⟩) xs.toList := by
  refine .inr ⟨w.heap.size, 0, rfl, by simp, fun j u hu => ?_⟩
  rw [cell_of_row (w.alloc (.cells xs e)) w.heap.size (0 + j) xs e (0, 0) (heap_alloc_new w _), Nat.zero_add]
  simpa using hu

/-- AppendList at a list of one number that the caller has just made. -/
theorem appendOne (x : Nat) (hx : x < 18446744073709551616) (w : World) (c : Nat) :
    Calls Try.prog 20 #[.slice (some ⟨w.heap.size, 0, none⟩) 1 c] (w.alloc (.cells #[.int .u64 (x : Int)] 31)) fun e w' => ∃ v', e = .returned v' ∧ w'.ownsRow (w.heap.size + 1) 5 1 v' (Lib.uvarint x).length (bc (Lib.uvarint x)) ∧ Below (w.heap.size + 1) (w.alloc (.cells #[.int .u64 (x : Int)] 31)) w' := by
  have h := appendList (some ⟨w.heap.size, 0, none⟩) c [x] (w.alloc (.cells #[.int .u64 (x : Int)] 31)) rd_new (by simpa using hx) (by simp)
  simpa [encL_one] using h

theorem appendOneZ (z : Int) (h0 : 0 ≤ z) (h1 : z < 18446744073709551616) (w : World) (c : Nat) :
    Calls Try.prog 20 #[.slice (some ⟨w.heap.size, 0, none⟩) 1 c] (w.alloc (.cells #[.int .u64 z] 31)) fun e w' => ∃ v', e = .returned v' ∧ w'.ownsRow (w.heap.size + 1) 5 1 v' (Lib.uvarint z.toNat).length (bc (Lib.uvarint z.toNat)) ∧ Below (w.heap.size + 1) (w.alloc (.cells #[.int .u64 z] 31)) w' := by
  obtain ⟨n, rfl⟩ := Int.eq_ofNat_of_zero_le h0
  rw [Int.toNat_natCast]
  exact appendOne n (by omega) w c

set_option maxHeartbeats 2000000 in
set_option maxRecDepth 100000 in
theorem walkFnSumLength (x y : Nat) (w : World) (hx : x < 18446744073709551616) (hy : y < 18446744073709551616) :
    Calls Try.prog 7 #[.int .u64 x, .int .u64 y] w fun e w' => e = .returned (.bool true) ∧ Below w.heap.size w w' := by
  by_cases hs : x + y < 18446744073709551616
  · have h1 := Lib.uvarint_pos x
    have h2 := Lib.uvarint_pos y
    have h3 := ulen_sum x y
    have l1 := Lib.uvarint_length64 hx
    have l2 := Lib.uvarint_length64 hy
    have l3 := Lib.uvarint_length64 hs
    go_enter Try.func7, Try.ntmps7
    go_wp2_with fail
    refine (appendOne x hx w 1).mono ?_
    rintro e w1 ⟨v1, rfl, hown1, hb1⟩
    obtain ⟨A1, c1, rfl, hn1, hc1, hr1⟩ := own_rd hown1
    go_wp2_with fail
    refine (appendOne y hy w1 1).mono ?_
    rintro e w2 ⟨v2, rfl, hown2, hb2⟩
    obtain ⟨A2, c2, rfl, hn2, hc2, hr2⟩ := own_rd hown2
    go_wp2_with fail
    have h12 := appendOneZ ((x : Int) + (y : Int)) (by omega) (by omega) w2 1
    rw [show ((x : Int) + (y : Int)).toNat = x + y by omega] at h12
    refine h12.mono ?_
    clear h12
    rintro e w3 ⟨v3, rfl, hown3, hb3⟩
    obtain ⟨A3, c3, rfl, hn3, hc3, hr3⟩ := own_rd hown3
    have HB : Hid (Below w.heap.size w w3) := by
      have h1 : Below w.heap.size w w1 := ((Below.refl _ _).alloc (Nat.le_refl _) _).trans (hb1.mono (by omega))
      have h2 : Below w.heap.size w w2 := (h1.alloc h1.size _).trans (hb2.mono (by have := h1.size; omega))
      exact (h2.alloc h2.size _).trans (hb3.mono (by have := h2.size; omega))
    generalize (Lib.uvarint x).length = a at *
    generalize (Lib.uvarint y).length = b at *
    generalize (Lib.uvarint (x + y)).length = d at *
    clear hown1 hown2 hown3 hr1 hr2 hr3 hb1 hb2 hb3
    go_wp2
    all_goals (go_ret; exact ⟨ret_bool (decide_eq_true (by omega)), HB.out⟩)
  · go_enter Try.func7, Try.ntmps7
    go_wp2
    go_ret
    exact ⟨rfl, Below.refl _ _⟩
end Go.Proofs.Ytnlndimojibimaa
