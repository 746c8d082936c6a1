/-
  What is proved here: what binary.AppendUvarint and impl.AppendList give back: the varints' bytes, one behind the other, in memory of the call's own; what was there before stays. Conditions: the numbers fit 64 bits; the new length is at most 200000000000000.
-/
import Derived.Test.YtnlndimojibimaaBase
namespace Go.Proofs.Ytnlndimojibimaa
open Go.RowKit

set_option maxHeartbeats 4000000 in
set_option maxRecDepth 100000 in
theorem auv (B n x : Nat) (hx : x < 18446744073709551616) (sv : Value) (xs : List Value) (w : World) (hown : w.ownsRow B 5 1 sv n xs) (hBw : B ≤ w.heap.size) (hlim : n + 10 ≤ 200000000000000) :
    Calls Try.prog 37 #[sv, .int .u64 x] w fun e w' => ∃ v', e = .returned v' ∧ w'.ownsRow B 5 1 v' (n + (Lib.uvarint x).length) (xs ++ bc (Lib.uvarint x)) ∧ Below B w w' := by
  obtain ⟨i0, hi, hz0, hz1, hz2⟩ := info_parts info_u8
  have hlen := Lib.uvarint_length64 hx
  go_enter Try.func37, Try.ntmps37
  go_wp2
  go_loopw [0, 1] (fun vb vx wr => ∃ (y : Nat) (pre : List UInt8), vx = .int .u64 y ∧ y ≤ x ∧ Lib.uvarint x = pre ++ Lib.uvarint y ∧ wr.ownsRow B 5 1 vb (n + pre.length) (xs ++ bc pre) ∧ Below B w wr)
    (fun _ vx _ => (intOf vx).toNat)
  case atStart => exact ⟨x, [], rfl, Nat.le_refl _, rfl, by simpa [bc, Lib.byteCells] using hown, Below.refl _ _⟩
  case round =>
    obtain ⟨y, pre, rfl, hy, hsplit, hown1, hnx⟩ := hrel
    have hpl : pre.length + (Lib.uvarint y).length ≤ 10 := by
      have h2 := congrArg List.length hsplit
      rw [List.length_append] at h2
      omega
    have hyp := Lib.uvarint_pos y
    by_cases h128 : 128 ≤ y
    · have hor : bits .or .u8 ((y : Int) % 256) 128 = ((y % 128 + 128 : Nat) : Int) := by
        rw [Lib.u8_or128_any _ (by omega) (by omega)]
        omega
      go_wp2_with (at_builtin; refine wpList_append_own_wide _ rfl _ _ 23 rfl B 5 i0 (.int .u8 0) 1 1 Try.underlying23 hi hz0 hz1 hz2 rfl (by decide) _ _ _ rfl (hown1.alloc _) ⟨wr.heap.size, 0, none⟩ 1 1 [Value.int .u8 ((y % 128 + 128 : Nat) : Int)] rfl rfl ?c1 ?c2 ?c3 ?c4 ?c5 ?_)
      case c1 => exact cell_one
      case c2 => intro u hu; simp at hu; subst hu; rfl
      case c3 => unfold maxLen; omega
      case c4 => omega
      case c5 => have := hnx.size; simp; omega
      intro v' w1 hown' hgrow _
      have hnx1 : Below B w w1 := (hnx.alloc (by have := hnx.size; omega) _).grown hgrow (by have := hnx.size; simp; omega) (fun k hk => (hown1.lt k hk).1)
      go_wp2
      go_roundw
      case rel =>
        refine ⟨y / 128, pre ++ [(y % 128 + 128).toUInt8], by go_num, by omega, by rw [hsplit, Lib.uvarint_big h128]; simp, ?_, hnx1⟩
        have ec : ((y % 128 + 128 : Nat) : Int) = (y : Int) % 128 + 128 := by omega
        rw [bc, Lib.byteCells_snoc pre (by omega), List.length_append, List.length_singleton, ← Nat.add_assoc, ec]
        exact hown'
      case measure => simp [intOf]; omega
    · have hsm : Lib.uvarint y = [y.toUInt8] := Lib.uvarint_small (by omega)
      go_wp2_with (at_builtin; refine wpList_append_own_wide _ rfl _ _ 23 rfl B 5 i0 (.int .u8 0) 1 1 Try.underlying23 hi hz0 hz1 hz2 rfl (by decide) _ _ _ rfl (hown1.alloc _) ⟨wr.heap.size, 0, none⟩ 1 1 [Value.int .u8 (y : Int)] rfl rfl ?c1 ?c2 ?c3 ?c4 ?c5 ?_)
      case c1 => exact cell_one
      case c2 => intro u hu; simp at hu; subst hu; rfl
      case c3 => unfold maxLen; omega
      case c4 => omega
      case c5 => have := hnx.size; simp; omega
      intro v' w1 hown' hgrow _
      have hnx1 : Below B w w1 := (hnx.alloc (by have := hnx.size; omega) _).grown hgrow (by have := hnx.size; simp; omega) (fun k hk => (hown1.lt k hk).1)
      go_wp2
      go_ret
      refine ⟨v', rfl, ?_, hnx1⟩
      rw [hsplit, hsm, bc, Lib.byteCells_snoc pre (by omega), List.length_append, List.length_singleton, ← Nat.add_assoc]
      exact hown'

theorem nc_at {zs : List Nat} {k : Nat} (h : k < zs.length) : ∃ x, zs[k]? = some x ∧ (nc zs)[k]? = some (.int .u64 (x : Int)) :=
  ⟨zs[k], List.getElem?_eq_getElem h, by simp [nc, List.getElem?_eq_getElem h]⟩

theorem take_snoc {α : Type} {zs : List α} {k : Nat} {x : α} (h : zs[k]? = some x) : zs.take (k + 1) = zs.take k ++ [x] := by
  rw [List.take_add_one, h]; rfl

theorem mem_of_at {α : Type} {zs : List α} {k : Nat} {x : α} (h : zs[k]? = some x) : x ∈ zs := List.mem_of_getElem? h

set_option maxHeartbeats 1000000 in
theorem appendList (A : Option Addr) (c : Nat) (zs : List Nat) (w : World) (hr : Rd w A (nc zs)) (hz : ∀ x ∈ zs, x < 18446744073709551616) (hl : 10 * zs.length ≤ 199999999999990) :
    Calls Try.prog 20 #[.slice A zs.length c] w fun e w' => ∃ v', e = .returned v' ∧ w'.ownsRow w.heap.size 5 1 v' (encL zs).length (bc (encL zs)) ∧ Below w.heap.size w w' := by
  go_enter Try.func20, Try.ntmps20
  go_wp2
  go_loopw [3, 8] (fun v i wr => ∃ k : Nat, k ≤ zs.length ∧ i = .int .i64 k ∧ wr.ownsRow w.heap.size 5 1 v (encL (zs.take k)).length (bc (encL (zs.take k))) ∧ Below w.heap.size w wr)
    (fun _ i _ => zs.length - (intOf i).toNat)
  case atStart => exact ⟨0, Nat.zero_le _, rfl, by simpa [encL, bc, Lib.byteCells] using World.ownsRow_nil _ _ _ _, Below.refl _ _⟩
  case round =>
    obtain ⟨k, hk, rfl, hown, hnx⟩ := hrel
    by_cases hlt : k < zs.length
    · obtain ⟨x, hx, hcx⟩ := nc_at hlt
      obtain ⟨b, off, rfl, hb, hcell⟩ := (hr.below hnx).at_ hcx
      have hx64 := hz x (mem_of_at hx)
      have hlen := encL_length_le (zs.take k) (fun y hy => hz y (List.mem_of_mem_take hy))
      have hlt' := List.length_take_le k zs
      have HX := Lib.hid (take_snoc hx)
      have HB := hnx.size
      clear hx hcx
      go_wp2_with (go_at_call 37; refine (auv w.heap.size _ x hx64 _ _ _ hown HB (by omega)).mono ?_; rintro e w1 ⟨v1, rfl, hown1, hb1⟩)
      have R : w1.ownsRow w.heap.size 5 1 v1 (encL (zs.take (k + 1))).length (bc (encL (zs.take (k + 1)))) := by
        rw [HX.out, encL_snoc, List.length_append, bc_append]; exact hown1
      have R2 : Below w.heap.size w w1 := hnx.trans hb1
      clear hown1 hb1 hown
      go_wp2
      go_roundw
      case rel => exact ⟨k + 1, by omega, by go_num, R, R2⟩
      case measure => simp [intOf]; omega
    · have hk2 : k = zs.length := by omega
      go_wp2
      go_ret
      refine ⟨_, rfl, ?_, hnx⟩
      rw [hk2, List.take_length] at hown
      exact hown
end Go.Proofs.Ytnlndimojibimaa
