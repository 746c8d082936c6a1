/-
  What is proved here: what spec.Number and spec.AppendList give back: the varints' bytes, in memory of the call's own; what was there before stays. Conditions: the numbers fit 64 bits; a list has at most 19999999999999 numbers.
-/
import Derived.Test.YtnlndimojibimaaAppend
namespace Go.Proofs.Ytnlndimojibimaa
open Go.RowKit

theorem own_lit0 (w : World) (e : TypeId) : (w.alloc (.cells #[] e)).ownsRow w.heap.size e 1 (.slice (some ⟨w.heap.size, 0, none⟩) 0 0) 0 [] := by
  have h := World.ownsRow_lit (e := e) (size := 1) w #[] 0 (Nat.le_refl _) (Nat.zero_le _) rfl
  simpa using h

set_option maxHeartbeats 4000000 in
set_option maxRecDepth 100000 in
theorem number (x : Nat) (hx : x < 18446744073709551616) (w : World) :
    Calls Try.prog 36 #[.int .u64 x] w fun e w' => ∃ v', e = .returned v' ∧ w'.ownsRow w.heap.size 5 1 v' (Lib.uvarint x).length (bc (Lib.uvarint x)) ∧ Below w.heap.size w w' := by
  obtain ⟨i0, hi, hz0, hz1, hz2⟩ := info_parts info_u8
  have hlen := Lib.uvarint_length64 hx
  have hst := own_lit0 w 5
  go_enter Try.func36, Try.ntmps36
  go_wp2
  go_loopw [0, 3] (fun vx vb wr => ∃ (y : Nat) (pre : List UInt8), vx = .int .u64 y ∧ y ≤ x ∧ Lib.uvarint x = pre ++ Lib.uvarint y ∧ wr.ownsRow w.heap.size 5 1 vb pre.length (bc pre) ∧ Below w.heap.size w wr)
    (fun vx _ _ => (intOf vx).toNat)
  case atStart => exact ⟨x, [], rfl, Nat.le_refl _, rfl, hst, (Below.refl _ _).alloc (Nat.le_refl _) _⟩
  case round =>
    clear hst
    obtain ⟨y, pre, rfl, hy, hsplit, hown1, hnx⟩ := hrel
    have hpl : pre.length + (Lib.uvarint y).length ≤ 10 := by
      have h2 := congrArg List.length hsplit
      rw [List.length_append] at h2
      omega
    have hyp := Lib.uvarint_pos y
    have HS := Lib.hid hsplit
    clear hsplit
    by_cases h128 : 128 ≤ y
    · have hm : ((y % 128 + 128 : Nat) : Int) = (y : Int) % 128 + 128 := by omega
      have HM := Lib.hid hm
      clear hm
      go_wp2_with (at_builtin; refine wpList_append_own_wide _ rfl _ _ 23 rfl w.heap.size 5 i0 (.int .u8 0) 1 1 Try.underlying23 hi hz0 hz1 hz2 rfl (by decide) _ _ _ rfl (hown1.alloc _) ⟨wr.heap.size, 0, none⟩ 1 1 [Value.int .u8 ((y : Int) % 128 + 128)] rfl rfl ?c1 ?c2 ?c3 ?c4 ?c5 ?_)
      case c1 => exact cell_one
      case c2 => intro u hu; simp at hu; subst hu; rfl
      case c3 => unfold maxLen; omega
      case c4 => omega
      case c5 => have := hnx.size; simp; omega
      intro v' w1 hown' hgrow _
      have hnx1 : Below w.heap.size w w1 := (hnx.alloc (by have := hnx.size; omega) _).grown hgrow (by have := hnx.size; simp; omega) (fun k hk => (hown1.lt k hk).1)
      go_wp2
      go_roundw
      case rel =>
        refine ⟨y / 128, pre ++ [(y % 128 + 128).toUInt8], by go_num, by omega, by rw [HS.out, Lib.uvarint_big h128]; simp, ?_, hnx1⟩
        rw [bc, Lib.byteCells_snoc pre (by omega), List.length_append, List.length_singleton, HM.out]
        exact hown'
      case measure => simp [intOf]; omega
    · have hsm : Lib.uvarint y = [y.toUInt8] := Lib.uvarint_small (by omega)
      have HSM := Lib.hid hsm
      clear hsm
      go_wp2_with (at_builtin; refine wpList_append_own_wide _ rfl _ _ 23 rfl w.heap.size 5 i0 (.int .u8 0) 1 1 Try.underlying23 hi hz0 hz1 hz2 rfl (by decide) _ _ _ rfl (hown1.alloc _) ⟨wr.heap.size, 0, none⟩ 1 1 [Value.int .u8 (y : Int)] rfl rfl ?c1 ?c2 ?c3 ?c4 ?c5 ?_)
      case c1 => exact cell_one
      case c2 => intro u hu; simp at hu; subst hu; rfl
      case c3 => unfold maxLen; omega
      case c4 => omega
      case c5 => have := hnx.size; simp; omega
      intro v' w1 hown' hgrow _
      have hnx1 : Below w.heap.size w w1 := (hnx.alloc (by have := hnx.size; omega) _).grown hgrow (by have := hnx.size; simp; omega) (fun k hk => (hown1.lt k hk).1)
      go_wp2
      go_ret
      refine ⟨v', rfl, ?_, hnx1⟩
      rw [HS.out, HSM.out, bc, Lib.byteCells_snoc pre (by omega), List.length_append, List.length_singleton]
      exact hown'

/-- An owned row that is not empty: where it lies. -/
theorem own_some {w : World} {base : Nat} {e : TypeId} {n : Nat} {v : Value} {xs : List Value} (h : w.ownsRow base e 1 v n xs) (hn : 0 < n) :
    ∃ g c, v = .slice (some ⟨g, 0, none⟩) n c ∧ base ≤ g ∧ g < w.heap.size ∧ n ≤ c ∧ (∀ j u, xs[j]? = some u → w.cell? ((⟨g, 0, none⟩ : Addr).add j) = some u) := by
  rcases h.2 with ⟨_, h0⟩ | ⟨g, cap, cur, rfl, hb, hh, hnc, _⟩
  · omega
  · exact ⟨g, cap, rfl, hb, (Array.getElem?_eq_some_iff.1 hh).1, hnc, h.cells (g := g) rfl⟩

theorem bc_one (bs : List UInt8) : ∀ u ∈ bc bs, u.oneCell' = true := by
  intro u hu
  obtain ⟨b, _, rfl⟩ := List.mem_map.1 hu
  rfl

set_option maxHeartbeats 2000000 in
set_option maxRecDepth 100000 in
theorem specList (A : Option Addr) (c : Nat) (zs : List Nat) (w : World) (hr : Rd w A (nc zs)) (hz : ∀ x ∈ zs, x < 18446744073709551616) (hl : 10 * zs.length ≤ 199999999999990) :
    Calls Try.prog 18 #[.slice A zs.length c] w fun e w' => ∃ v', e = .returned v' ∧ w'.ownsRow w.heap.size 5 1 v' (encL zs).length (bc (encL zs)) ∧ Below w.heap.size w w' := by
  obtain ⟨i0, hi, hz0, hz1, hz2⟩ := info_parts info_u8
  go_enter Try.func18, Try.ntmps18
  go_wp2
  go_loopw [3, 4] (fun v i wr => ∃ k : Nat, k ≤ zs.length ∧ i = .int .i64 k ∧ wr.ownsRow w.heap.size 5 1 v (encL (zs.take k)).length (bc (encL (zs.take k))) ∧ Below w.heap.size w wr)
    (fun _ i _ => zs.length - (intOf i).toNat)
  case atStart => exact ⟨0, Nat.zero_le _, rfl, by simpa [encL, bc, Lib.byteCells] using World.ownsRow_nil _ _ _ _, Below.refl _ _⟩
  case round =>
    obtain ⟨k, hk, rfl, hown, hnx⟩ := hrel
    by_cases hlt : k < zs.length
    · obtain ⟨x, hx, hcx⟩ := nc_at hlt
      obtain ⟨b, off, rfl, hb, hcell⟩ := (hr.below hnx).at_ hcx
      have hx64 := hz x (mem_of_at hx)
      have hlen := encL_length_le (zs.take k) (fun y hy => hz y (List.mem_of_mem_take hy))
      have hlt' := List.length_take_le k zs
      have hul := Lib.uvarint_length64 hx64
      have hup := Lib.uvarint_pos x
      have HX := Lib.hid (take_snoc hx)
      have HB := hnx.size
      clear hx hcx
      go_wp2_with fail
      refine (number x hx64 _).mono ?_
      rintro e w1 ⟨v1, rfl, hown1, hb1⟩
      obtain ⟨g, c1, rfl, hg1, hg2, hn1, hcs⟩ := own_some hown1 hup
      have hownw := own_below hown hb1
      have hs1 := hb1.size
      go_wp2_with (at_builtin; refine wpList_append_own_wide _ rfl _ _ 23 rfl w.heap.size 5 i0 (.int .u8 0) 1 1 Try.underlying23 hi hz0 hz1 hz2 rfl (by decide) _ _ _ rfl hownw ⟨g, 0, none⟩ (Lib.uvarint x).length c1 (bc (Lib.uvarint x)) rfl ?c0 hcs ?c2 ?c3 ?c4 ?c5 ?_)
      case c0 => rw [bc_length]; omega
      case c2 => exact bc_one _
      case c3 => unfold maxLen; omega
      case c4 => omega
      case c5 => omega
      intro v2 w2 hown2 hg _
      have R : w2.ownsRow w.heap.size 5 1 v2 (encL (zs.take (k + 1))).length (bc (encL (zs.take (k + 1)))) := by
        rw [HX.out, encL_snoc, List.length_append, bc_append]; exact hown2
      have R2 : Below w.heap.size w w2 := (hnx.trans (hb1.mono HB)).grown hg (by omega) (fun k hk => (hownw.lt k hk).1)
      clear hown1 hb1 hown hown2 hownw hcs
      go_wp2
      go_roundw
      case rel => exact ⟨k + 1, by omega, by go_num, R, R2⟩
      case measure => simp [intOf]; omega
    · obtain rfl : k = zs.length := by omega
      go_wp2
      go_ret
      refine ⟨_, rfl, ?_, hnx⟩
      rw [List.take_length] at hown
      exact hown
end Go.Proofs.Ytnlndimojibimaa
