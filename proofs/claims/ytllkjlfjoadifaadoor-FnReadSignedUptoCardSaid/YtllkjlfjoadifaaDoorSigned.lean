/-
  What is proved here: what binary.AppendVarint, impl.AppendSignedList, spec.Signed and spec.AppendSignedList give back. Conditions: the numbers fit 64 bits; lengths as each theorem says.
-/
import Derived.Test.YtllkjlfjoadifaaDoorSpec
namespace Go.Proofs.YtllkjlfjoadifaaDoor
open Go.RowKit

/-- the bytes of a list of numbers with signs -/
def encS (zs : List Int) : List UInt8 := encL (zs.map Lib.zigzag)
theorem encS_nil : encS [] = [] := rfl
theorem encS_snoc (l : List Int) (x : Int) : encS (l ++ [x]) = encS l ++ Lib.uvarint (Lib.zigzag x) := by simp [encS, encL]
theorem encS_length_le (l : List Int) (h : ∀ x ∈ l, -9223372036854775808 ≤ x ∧ x ≤ 9223372036854775807) : (encS l).length ≤ 10 * l.length := by
  have := encL_length_le (l.map Lib.zigzag) (fun y hy => by obtain ⟨x, hx, rfl⟩ := List.mem_map.1 hy; exact Lib.zigzag_lt (h x hx).1 (h x hx).2)
  rw [List.length_map] at this
  exact this
theorem encS_length_ge (l : List Int) : l.length ≤ (encS l).length := by
  have := encL_length_ge (l.map Lib.zigzag)
  rw [List.length_map] at this
  exact this

theorem ic_at {zs : List Int} {k : Nat} (h : k < zs.length) : ∃ x, zs[k]? = some x ∧ (ic zs)[k]? = some (.int .i64 x) :=
  ⟨zs[k], List.getElem?_eq_getElem h, by simp [ic, List.getElem?_eq_getElem h]⟩

set_option maxHeartbeats 1000000 in
theorem signed (x : Int) (h0 : -9223372036854775808 ≤ x) (h1 : x ≤ 9223372036854775807) (w : World) :
    Calls Tryd.prog 12 #[.int .i64 x] w fun e w' => e = .returned (.int .u64 (Lib.zigzag x : Nat)) ∧ w = w' := by
  by_cases hneg : x < 0
  · have hz : ((Lib.zigzag x : Nat) : Int) = 2 * (-(x + 1)) + 1 := by unfold Lib.zigzag; rw [if_neg (by omega)]; omega
    rw [hz]
    go_enter Tryd.func12, Tryd.ntmps12
    go_wp2
    go_ret
    exact ⟨rfl, rfl⟩
  · have hz : ((Lib.zigzag x : Nat) : Int) = 2 * x := by unfold Lib.zigzag; rw [if_pos (by omega)]; omega
    rw [hz]
    go_enter Tryd.func12, Tryd.ntmps12
    go_wp2
    go_ret
    exact ⟨rfl, rfl⟩

set_option maxHeartbeats 2000000 in
set_option maxRecDepth 100000 in
theorem specSigned (A : Option Addr) (c : Nat) (zs : List Int) (w : World) (hr : Rd w A (ic zs)) (hz : ∀ x ∈ zs, -9223372036854775808 ≤ x ∧ x ≤ 9223372036854775807) (hl : 10 * zs.length ≤ 199999999999990) :
    Calls Tryd.prog 8 #[.slice A zs.length c] w fun e w' => ∃ v', e = .returned v' ∧ w'.ownsRow w.heap.size 5 1 v' (encS zs).length (bc (encS zs)) ∧ Below w.heap.size w w' := by
  obtain ⟨i0, hi, hz0, hz1, hz2⟩ := info_parts info_u8
  go_enter Tryd.func8, Tryd.ntmps8
  go_wp2
  go_loopw [3, 4] (fun v i wr => ∃ k : Nat, k ≤ zs.length ∧ i = .int .i64 k ∧ wr.ownsRow w.heap.size 5 1 v (encS (zs.take k)).length (bc (encS (zs.take k))) ∧ Below w.heap.size w wr)
    (fun _ i _ => zs.length - (intOf i).toNat)
  case atStart => exact ⟨0, Nat.zero_le _, rfl, by simpa [encS, encL, bc, Lib.byteCells] using World.ownsRow_nil _ _ _ _, Below.refl _ _⟩
  case round =>
    obtain ⟨k, hk, rfl, hown, hnx⟩ := hrel
    by_cases hlt : k < zs.length
    · obtain ⟨x, hx, hcx⟩ := ic_at hlt
      obtain ⟨b, off, rfl, hb, hcell⟩ := (hr.below hnx).at_ hcx
      obtain ⟨hx0, hx1⟩ := hz x (mem_of_at hx)
      have hx64 := Lib.zigzag_lt hx0 hx1
      have hlen := encS_length_le (zs.take k) (fun y hy => hz y (List.mem_of_mem_take hy))
      have hlt' := List.length_take_le k zs
      have hul := Lib.uvarint_length64 hx64
      have hup := Lib.uvarint_pos (Lib.zigzag x)
      have HX := Lib.hid (take_snoc hx)
      have HB := hnx.size
      clear hx hcx
      go_wp2_with fail
      refine (signed x hx0 hx1 _).mono ?_
      rintro e w0 ⟨rfl, rfl⟩
      go_wp2_with fail
      refine (number (Lib.zigzag x) hx64 _).mono ?_
      rintro e w1 ⟨v1, rfl, hown1, hb1⟩
      obtain ⟨g, c1, rfl, hg1, hg2, hn1, hcs⟩ := own_some hown1 hup
      have hownw := own_below hown hb1
      have hs1 := hb1.size
      go_wp2_with (at_builtin; refine wpList_append_own_wide _ rfl _ _ 24 rfl w.heap.size 5 i0 (.int .u8 0) 1 1 Tryd.underlying24 hi hz0 hz1 hz2 rfl (by decide) _ _ _ rfl hownw ⟨g, 0, none⟩ (Lib.uvarint (Lib.zigzag x)).length c1 (bc (Lib.uvarint (Lib.zigzag x))) rfl ?c0 hcs ?c2 ?c3 ?c4 ?c5 ?_)
      case c0 => rw [bc_length]; omega
      case c2 => exact bc_one _
      case c3 => unfold maxLen; omega
      case c4 => omega
      case c5 => omega
      intro v2 w2 hown2 hg _
      have R : w2.ownsRow w.heap.size 5 1 v2 (encS (zs.take (k + 1))).length (bc (encS (zs.take (k + 1)))) := by
        rw [HX.out, encS_snoc, List.length_append, bc_append]; exact hown2
      have R2 : Below w.heap.size w w2 := (hnx.trans (hb1.mono HB)).grown hg (by omega) (fun k hk => (hownw.lt k hk).1)
      clear hown1 hb1 hown hown2 hownw hcs
      go_wp2
      go_roundw
      case rel => exact ⟨k + 1, by omega, by go_num, R, R2⟩
      case measure => simp [intOf]; omega
    · obtain rfl : k = zs.length := by omega
      go_wp2
      go_ret
      refine ⟨_, rfl, ?_, hnx⟩
      rw [List.take_length] at hown
      exact hown
end Go.Proofs.YtllkjlfjoadifaaDoor
