/-
  What is proved here: the walk of FnJoined: it returns true. Conditions: the rest has at most 140737488351232 bytes.
-/
import Derived.Test.YtnlndimojibimaaCut
namespace Go.Proofs.Ytnlndimojibimaa
open Go.RowKit

theorem shl_case {L : Nat} (h1 : 1 ≤ L) (h8 : L ≤ 8) : IntKind.u64.wrap (2 ^ (63 - 7 * L)) = ((128 ^ (9 - L) : Nat) : Int) := by
  have hs : L = 1 ∨ L = 2 ∨ L = 3 ∨ L = 4 ∨ L = 5 ∨ L = 6 ∨ L = 7 ∨ L = 8 := by omega
  rcases hs with rfl | rfl | rfl | rfl | rfl | rfl | rfl | rfl <;> decide

theorem sum_case {z x y L : Nat} (h1 : 1 ≤ L) (h8 : L ≤ 8) (hx : x < 128 ^ L) (hy : y < 128 ^ (9 - L)) (h : z = x + y * 128 ^ L) : IntKind.u64.wrap ((x : Int) + IntKind.u64.wrap ((y : Int) * 2 ^ (7 * L))) = (z : Int) := by
  have hs : L = 1 ∨ L = 2 ∨ L = 3 ∨ L = 4 ∨ L = 5 ∨ L = 6 ∨ L = 7 ∨ L = 8 := by omega
  rw [IntKind.wrap_u64, IntKind.wrap_u64]
  subst h
  rcases hs with rfl | rfl | rfl | rfl | rfl | rfl | rfl | rfl
  · have e1 : (2 : Int) ^ (7 * 1) = 128 := by decide
    have e2 : (128 : Nat) ^ 1 = 128 := by decide
    have e3 : (128 : Nat) ^ (9 - 1) = 72057594037927936 := by decide
    rw [e2] at hx
    rw [e3] at hy
    rw [e1, e2]
    omega
  · have e1 : (2 : Int) ^ (7 * 2) = 16384 := by decide
    have e2 : (128 : Nat) ^ 2 = 16384 := by decide
    have e3 : (128 : Nat) ^ (9 - 2) = 562949953421312 := by decide
    rw [e2] at hx
    rw [e3] at hy
    rw [e1, e2]
    omega
  · have e1 : (2 : Int) ^ (7 * 3) = 2097152 := by decide
    have e2 : (128 : Nat) ^ 3 = 2097152 := by decide
    have e3 : (128 : Nat) ^ (9 - 3) = 4398046511104 := by decide
    rw [e2] at hx
    rw [e3] at hy
    rw [e1, e2]
    omega
  · have e1 : (2 : Int) ^ (7 * 4) = 268435456 := by decide
    have e2 : (128 : Nat) ^ 4 = 268435456 := by decide
    have e3 : (128 : Nat) ^ (9 - 4) = 34359738368 := by decide
    rw [e2] at hx
    rw [e3] at hy
    rw [e1, e2]
    omega
  · have e1 : (2 : Int) ^ (7 * 5) = 34359738368 := by decide
    have e2 : (128 : Nat) ^ 5 = 34359738368 := by decide
    have e3 : (128 : Nat) ^ (9 - 5) = 268435456 := by decide
    rw [e2] at hx
    rw [e3] at hy
    rw [e1, e2]
    omega
  · have e1 : (2 : Int) ^ (7 * 6) = 4398046511104 := by decide
    have e2 : (128 : Nat) ^ 6 = 4398046511104 := by decide
    have e3 : (128 : Nat) ^ (9 - 6) = 2097152 := by decide
    rw [e2] at hx
    rw [e3] at hy
    rw [e1, e2]
    omega
  · have e1 : (2 : Int) ^ (7 * 7) = 562949953421312 := by decide
    have e2 : (128 : Nat) ^ 7 = 562949953421312 := by decide
    have e3 : (128 : Nat) ^ (9 - 7) = 16384 := by decide
    rw [e2] at hx
    rw [e3] at hy
    rw [e1, e2]
    omega
  · have e1 : (2 : Int) ^ (7 * 8) = 72057594037927936 := by decide
    have e2 : (128 : Nat) ^ 8 = 72057594037927936 := by decide
    have e3 : (128 : Nat) ^ (9 - 8) = 128 := by decide
    rw [e2] at hx
    rw [e3] at hy
    rw [e1, e2]
    omega

set_option maxHeartbeats 4000000 in
set_option maxRecDepth 100000 in
theorem walkFnJoined (x y : Nat) (A : Option Addr) (c : Nat) (bs : List UInt8) (w : World) (hx : x < 18446744073709551616) (hy : y < 18446744073709551616) (hr : Rd w A (bc bs)) (hl : bs.length ≤ 140737488351232) :
    Calls Try.prog 15 #[.int .u64 x, .int .u64 y, .slice A bs.length c] w fun e w' => e = .returned (.bool true) ∧ Below w.heap.size w w' := by
  obtain ⟨L, hL⟩ : ∃ L, (Lib.uvarint x).length = L := ⟨_, rfl⟩
  have hpos := Lib.uvarint_pos x
  have hlen := Lib.uvarint_length64 hx
  rw [hL] at hpos hlen
  have hne : ((L : Int) == 0) = false := beq_eq_false_iff_ne.2 (by omega)
  have HR := Lib.hid hr
  have HL := Lib.hid hL
  have hxl : x < 128 ^ L := by have h := uval_lt (Lib.uvarint x); rw [uval_uvarint, hL] at h; exact h
  have HXL := Lib.hid hxl
  clear hr hxl
  go_enter Try.func15, Try.ntmps15
  go_wp2_with fail
  refine (appendOne x hx w 1).mono ?_
  rintro e w1 ⟨v1, rfl, hown1, hb1⟩
  rw [hL] at hown1
  clear hL
  have B1 : Hid (Below w.heap.size w w1) := ((Below.refl _ _).alloc (Nat.le_refl _) _).trans (hb1.mono (by omega))
  obtain ⟨g, c1, rfl, hg1, hg2, hn1, hcs⟩ := own_some hown1 hpos
  clear hb1
  by_cases h9 : 9 ≤ L
  · clear hcs hown1
    go_wp2
    go_ret
    exact ⟨rfl, B1.out⟩
  by_cases hyb : y < 128 ^ (9 - L)
  · obtain ⟨b, b', hb0, hb, hbb, hdec⟩ := joined hx HL.out (by omega) hyb
    obtain ⟨K, rfl⟩ : ∃ K, L = K + 1 := ⟨L - 1, by omega⟩
    have hcell : w1.cell? ⟨g, K, none⟩ = some (.int .u8 (b.toNat : Int)) := by
      have h := hcs K _ (show (bc (Lib.uvarint x))[K]? = some (.int .u8 (b.toNat : Int)) by rw [bc, Lib.byteCells, List.getElem?_map, show (Lib.uvarint x)[K]? = some b from hb0]; rfl)
      rw [addr_add, Nat.zero_add] at h
      exact h
    have hfr := hown1.frozenAt K
    have HS : Hid ((w1.setCell ⟨g, K, none⟩ (.int .u8 ((b.toNat : Int) + 128))).ownsRow (w.heap.size + 1) 5 1 (.slice (some ⟨g, 0, none⟩) (K + 1) c1) (K + 1) (bc ((Lib.uvarint x).set K b'))) := by
      have h := (hown1.stored K (.int .u8 (b'.toNat : Int))).1
      rw [bc_set, hbb] at h
      exact h
    have HB2 : Hid (Below w.heap.size w (w1.setCell ⟨g, K, none⟩ (.int .u8 ((b.toNat : Int) + 128)))) := B1.out.setCell (p := ⟨g, K, none⟩) (by show w.heap.size ≤ g; omega) _
    have HD : Hid (Lib.uvarintDec ((Lib.uvarint x).set K b' ++ Lib.uvarint y ++ bs) = (x + y * 128 ^ (K + 1), ((K + 1 + (Lib.uvarint y).length : Nat) : Int))) := hdec bs
    have hyt : (y : Int) < IntKind.u64.wrap (2 ^ (63 - 7 * (K + 1))) := by rw [shl_case (by omega) (by omega)]; omega
    have hly : (Lib.uvarint y).length ≤ 10 := Lib.uvarint_length64 hy
    have HYB := Lib.hid hyb
    clear hbb hdec hb0 hcs hown1 hyb
    go_wp2_with fail
    have hcall := appendOne y hy (w1.setCell ⟨g, K, none⟩ (.int .u8 ((b.toNat : Int) + 128))) 1
    have hsz : (w1.setCell ⟨g, K, none⟩ (.int .u8 ((b.toNat : Int) + 128))).heap.size = w1.heap.size := by simp
    rw [hsz] at hcall
    refine hcall.mono ?_
    clear hcall
    rintro e w2 ⟨v2, rfl, hown2, hb2⟩
    clear hcell hfr hyt
    obtain ⟨A2, c2, rfl, _, _, hr2⟩ := own_rd hown2
    have hb2' : Below (w1.setCell ⟨g, K, none⟩ (.int .u8 ((b.toNat : Int) + 128))).heap.size (w1.setCell ⟨g, K, none⟩ (.int .u8 ((b.toNat : Int) + 128))) w2 := ((Below.refl _ _).alloc (Nat.le_refl _) _).trans (hb2.mono (by rw [hsz]; omega))
    have HO2 := Lib.hid (own_below HS.out hb2')
    have B2 : Hid (Below w.heap.size w w2) := HB2.out.trans (hb2'.mono HB2.out.size)
    have hs2 := B2.out.size
    have hs3 : w.heap.size + 1 ≤ w2.heap.size := by
      have h2 := hb2'.size
      omega
    clear hb2 hb2' hown2 HS hsz
    generalize hLy : (Lib.uvarint y).length = M at *
    have HLY := Lib.hid hLy
    clear hLy
    go_wp2_with (at_builtin; refine wpList_app _ rfl (.tmp 43) (.tmp 44) rfl (w.heap.size + 1) _ _ _ rfl HO2.out A2 M c2 (bc (Lib.uvarint y)) rfl hr2 ?b0 (bc_one _) ?b1 ?b2 ?_)
    case b0 => rw [bc_length]; exact HLY.out
    case b1 => omega
    case b2 => exact hs3
    intro v3 w3 hown3 hgr3
    have B23 : Hid (Below w.heap.size w w3) := B2.out.grown hgr3 hs2 (fun j hj => by have := (HO2.out.lt j hj).1; omega)
    have hs4 : w.heap.size + 1 ≤ w3.heap.size := Nat.le_trans hs3 hgr3.size
    clear hgr3 hr2 HO2
    go_wp2_with (at_builtin; refine wpList_app _ rfl (.tmp 45) (.tmp 46) rfl (w.heap.size + 1) _ _ _ rfl hown3 A bs.length c (bc bs) rfl (HR.out.below B23.out) (bc_length bs) (bc_one bs) ?d1 ?d2 ?_)
    case d1 => omega
    case d2 => exact hs4
    intro v4 w4 hown4 hgr4
    have B4 : Hid (Below w.heap.size w w4) := B23.out.grown hgr4 B23.out.size (fun j hj => by have := (hown3.lt j hj).1; omega)
    obtain ⟨A4, c4, rfl, _, _, hr4⟩ := own_rd hown4
    rw [← bc_append, ← bc_append] at hr4
    clear hgr4 hown4 hown3
    obtain ⟨z, hz⟩ : ∃ z, z = x + y * 128 ^ (K + 1) := ⟨_, rfl⟩
    have hsum := sum_case (by omega) (by omega) HXL.out HYB.out hz
    have HZ := Lib.hid hz
    go_wp2_with fail
    refine (uvarintZ A4 _ c4 _ z ((K : Int) + 1 + (M : Int)) w4 hr4 (by simp only [List.length_append, List.length_set, HL.out, HLY.out]; omega) (by rw [hz, ← List.append_assoc, HD.out]; refine Prod.ext rfl ?_; show ((K + 1 + M : Nat) : Int) = _; omega)).mono ?_
    clear hz hr4
    rintro e w4' ⟨rfl, rfl⟩
    go_wp2
    go_ret
    exact ⟨ret_bool (by simp), B4.out⟩
  · have hyt : ¬ (y : Int) < IntKind.u64.wrap (2 ^ (63 - 7 * L)) := by rw [shl_case (by omega) (by omega)]; omega
    clear hcs hown1 hyb
    go_wp2
    go_ret
    exact ⟨rfl, B1.out⟩
end Go.Proofs.Ytnlndimojibimaa
