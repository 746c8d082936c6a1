/-
  What is proved here: the walks of FnCutShort and FnJoined: each returns true. Conditions: the rest has at most 140737488351232 bytes.
-/
import Derived.Test.YtnlndimojibimaaDec
import Derived.Test.YtnlndimojibimaaLen
import Derived.Test.YtnlndimojibimaaApp
namespace Go.Proofs.Ytnlndimojibimaa
open Go.RowKit

theorem bc_set (bs : List UInt8) (k : Nat) (d : UInt8) : (bc bs).set k (.int .u8 (d.toNat : Int)) = bc (bs.set k d) := by
  simp [bc, Lib.byteCells, List.map_set]

theorem cut_short {x k : Nat} (hx : x < 18446744073709551616) (hk : k + 1 < (Lib.uvarint x).length) : ∃ d d' : UInt8, (Lib.uvarint x)[k]? = some d ∧ 128 ≤ d.toNat ∧ k ≤ 8 ∧ (d'.toNat : Int) = (d.toNat : Int) - 128 ∧
    ∀ rest, Lib.uvarintDec ((Lib.uvarint x).set k d' ++ rest) = (x % 128 ^ (k + 1), ((k + 1 : Nat) : Int)) := by
  obtain ⟨pre, b, he, hp, hb, h9, h1, hv⟩ := uvarint_parts hx
  rw [he, List.length_append, List.length_singleton] at hk
  have hkp : k < pre.length := by omega
  have hd : 128 ≤ (pre[k]).toNat := hp _ (List.getElem_mem _)
  have hd2 := (pre[k]).toNat_lt
  have e' : ((pre[k]).toNat - 128).toUInt8.toNat = (pre[k]).toNat - 128 := Lib.toUInt8_toNat (by omega)
  refine ⟨pre[k], ((pre[k]).toNat - 128).toUInt8, ?_, hd, by omega, by rw [e']; omega, fun rest => ?_⟩
  · rw [he, List.getElem?_append_left hkp, List.getElem?_eq_getElem hkp]
  · have hs : (Lib.uvarint x).set k ((pre[k]).toNat - 128).toUInt8 ++ rest = pre.take k ++ ((pre[k]).toNat - 128).toUInt8 :: (pre.drop (k + 1) ++ [b] ++ rest) := by
      rw [he, List.set_append_left _ _ hkp, List.set_eq_take_append_cons_drop, if_pos hkp]
      simp
    rw [hs, dec_split (by rw [e']; omega) _ (fun c hc => hp c (List.mem_of_mem_take hc)) (by rw [List.length_take]; omega) (fun h => by rw [List.length_take] at h; omega)]
    have hl : (pre.take k).length = k := by rw [List.length_take]; omega
    rw [hl]
    refine Prod.ext ?_ rfl
    show uval (pre.take k ++ [((pre[k]).toNat - 128).toUInt8]) = x % 128 ^ (k + 1)
    have e1 : uval (pre.take k ++ [((pre[k]).toNat - 128).toUInt8]) = uval (pre.take (k + 1)) := by
      have e0 : uval [((pre[k]).toNat - 128).toUInt8] = uval [pre[k]] := by
        simp only [uval, e']
        omega
      rw [List.take_add_one, List.getElem?_eq_getElem hkp, uval_append, Option.toList_some, uval_append, e0]
    have e2 : uval (pre ++ [b]) = uval (pre.take (k + 1)) + 128 ^ (k + 1) * uval (pre.drop (k + 1) ++ [b]) := by
      have h := uval_append (pre.take (k + 1)) (pre.drop (k + 1) ++ [b])
      rw [← List.append_assoc, List.take_append_drop, List.length_take, Nat.min_eq_left (by omega)] at h
      exact h
    have e3 := uval_lt (pre.take (k + 1))
    rw [List.length_take, Nat.min_eq_left (by omega)] at e3
    rw [e1, ← hv, e2, Nat.add_mul_mod_self_left, Nat.mod_eq_of_lt e3]

theorem mod_case {y x p : Nat} {q : Int} (h : y = x % p) (hq : (p : Int) = q) : ((y : Int) == (x : Int) % q) = true := by
  subst h
  subst hq
  simp

set_option maxHeartbeats 4000000 in
set_option maxRecDepth 100000 in
theorem walkFnCutShort (x : Nat) (k : Int) (A : Option Addr) (c : Nat) (bs : List UInt8) (w : World) (hx : x < 18446744073709551616) (hk0 : -9223372036854775808 ≤ k) (hk1 : k ≤ 9223372036854775807) (hr : Rd w A (bc bs)) (hl : bs.length ≤ 140737488351232) :
    Calls Try.prog 14 #[.int .u64 x, .int .i64 k, .slice A bs.length c] w fun e w' => e = .returned (.bool true) ∧ Below w.heap.size w w' := by
  have hpos := Lib.uvarint_pos x
  have hlen := Lib.uvarint_length64 hx
  have hne : (((Lib.uvarint x).length : Int) == 0) = false := beq_eq_false_iff_ne.2 (by omega)
  have HR := Lib.hid hr
  clear hr
  go_enter Try.func14, Try.ntmps14
  go_wp2_with fail
  refine (appendOne x hx w 1).mono ?_
  rintro e w1 ⟨v1, rfl, hown1, hb1⟩
  have B1 : Hid (Below w.heap.size w w1) := ((Below.refl _ _).alloc (Nat.le_refl _) _).trans (hb1.mono (by omega))
  obtain ⟨g, c1, rfl, hg1, hg2, hn1, hcs⟩ := own_some hown1 hpos
  clear hb1
  by_cases hneg : k < 0
  · clear hcs hown1
    go_wp2
    go_ret
    exact ⟨rfl, B1.out⟩
  · by_cases hbig : ((Lib.uvarint x).length : Int) - 1 ≤ k
    · clear hcs hown1
      go_wp2
      go_ret
      exact ⟨rfl, B1.out⟩
    · obtain ⟨k, rfl⟩ := Int.eq_ofNat_of_zero_le (show 0 ≤ k by omega)
      obtain ⟨d, d', hd, hd1, hk8, hdd, hdec⟩ := cut_short hx (show k + 1 < (Lib.uvarint x).length by omega)
      have hd2 := d.toNat_lt
      have hcell : w1.cell? ⟨g, k, none⟩ = some (.int .u8 (d.toNat : Int)) := by
        have h := hcs k _ (show (bc (Lib.uvarint x))[k]? = some (.int .u8 (d.toNat : Int)) by simp [bc, Lib.byteCells, hd])
        rw [addr_add, Nat.zero_add] at h
        exact h
      have hfr := hown1.frozenAt k
      have HS : Hid ((w1.setCell ⟨g, k, none⟩ (.int .u8 ((d.toNat : Int) - 128))).ownsRow (w.heap.size + 1) 5 1 (.slice (some ⟨g, 0, none⟩) (Lib.uvarint x).length c1) (Lib.uvarint x).length (bc ((Lib.uvarint x).set k d'))) := by
        have h := (hown1.stored k (.int .u8 (d'.toNat : Int))).1
        rw [bc_set, hdd] at h
        exact h
      have HB2 : Hid (Below w.heap.size w (w1.setCell ⟨g, k, none⟩ (.int .u8 ((d.toNat : Int) - 128)))) := B1.out.setCell (p := ⟨g, k, none⟩) (by show w.heap.size ≤ g; omega) _
      have HD := Lib.hid (hdec bs)
      have hkl : (k : Int) < ((Lib.uvarint x).length : Int) := by omega
      clear hdd hdec hd hcs hown1
      go_wp2_with (at_builtin; refine wpList_app _ rfl (.tmp 32) (.tmp 33) rfl (w.heap.size + 1) _ _ _ rfl HS.out A bs.length c (bc bs) rfl (HR.out.below HB2.out) (bc_length bs) (bc_one bs) ?b1 ?b2 ?_)
      case b1 => omega
      case b2 => have := B1.out.size; simp; omega
      intro v3 w3 hown3 hgr3
      have B3 : Hid (Below w.heap.size w w3) := HB2.out.grown hgr3 HB2.out.size (fun j hj => by have := (HS.out.lt j hj).1; omega)
      obtain ⟨A3, c3, rfl, _, _, hr3⟩ := own_rd hown3
      rw [← bc_append] at hr3
      clear hgr3 hown3
      obtain ⟨y, hy⟩ : ∃ y, y = x % 128 ^ (k + 1) := ⟨_, rfl⟩
      have HY := Lib.hid hy
      go_wp2_with fail
      refine (uvarintZ A3 _ c3 _ y (((k + 1 : Nat)) : Int) w3 hr3 (by rw [List.length_append, List.length_set]) (by rw [hy]; exact HD.out)).mono ?_
      clear hy hr3
      rintro e w3' ⟨rfl, rfl⟩
      have hks : k = 0 ∨ k = 1 ∨ k = 2 ∨ k = 3 ∨ k = 4 ∨ k = 5 ∨ k = 6 ∨ k = 7 ∨ k = 8 := by omega
      clear hcell hfr HS HD
      rcases hks with rfl | rfl | rfl | rfl | rfl | rfl | rfl | rfl | rfl
      all_goals
        go_wp2
        go_ret
        exact ⟨ret_bool (mod_case HY.out (by decide)), B3.out⟩

theorem joined {x y L : Nat} (hx : x < 18446744073709551616) (hL : (Lib.uvarint x).length = L) (hL8 : L ≤ 8) (hy : y < 128 ^ (9 - L)) : ∃ b b' : UInt8, (Lib.uvarint x)[L - 1]? = some b ∧ b.toNat < 128 ∧ (b'.toNat : Int) = (b.toNat : Int) + 128 ∧
    ∀ rest, Lib.uvarintDec ((Lib.uvarint x).set (L - 1) b' ++ Lib.uvarint y ++ rest) = (x + y * 128 ^ L, ((L + (Lib.uvarint y).length : Nat) : Int)) := by
  obtain ⟨pre, b, he, hp, hb, h9, h1, hv⟩ := uvarint_parts hx
  obtain ⟨pre2, b2, he2, hp2, hb2⟩ := uvarint_split y
  have hl : pre.length + 1 = L := by rw [← hL, he, List.length_append, List.length_singleton]
  have hly : (Lib.uvarint y).length ≤ 9 - L := by
    have h := Lib.uvarint_length (8 - L) y (by rw [show 8 - L + 1 = 9 - L by omega]; exact hy)
    omega
  have hly2 : (Lib.uvarint y).length = pre2.length + 1 := by rw [he2, List.length_append, List.length_singleton]
  have e' : (b.toNat + 128).toUInt8.toNat = b.toNat + 128 := Lib.toUInt8_toNat (by omega)
  refine ⟨b, (b.toNat + 128).toUInt8, ?_, hb, by rw [e']; omega, fun rest => ?_⟩
  · rw [he, List.getElem?_append_right (by omega), show L - 1 - pre.length = 0 by omega]
    rfl
  · have hs : (Lib.uvarint x).set (L - 1) (b.toNat + 128).toUInt8 ++ Lib.uvarint y ++ rest = (pre ++ [(b.toNat + 128).toUInt8] ++ pre2) ++ b2 :: rest := by
      rw [he, List.set_append_right _ _ (by omega), show L - 1 - pre.length = 0 by omega, he2]
      simp
    have hall : ∀ c ∈ pre ++ [(b.toNat + 128).toUInt8] ++ pre2, 128 ≤ c.toNat := by
      intro c hc
      rcases List.mem_append.1 hc with hc | hc
      · rcases List.mem_append.1 hc with hc | hc
        · exact hp c hc
        · rw [List.mem_singleton.1 hc, e']; omega
      · exact hp2 c hc
    have hlen : (pre ++ [(b.toNat + 128).toUInt8] ++ pre2).length = L + pre2.length := by
      rw [List.length_append, List.length_append, List.length_singleton]; omega
    rw [hs, dec_split hb2 _ hall (by rw [hlen]; omega) (fun h => by rw [hlen] at h; omega), hlen, hly2]
    refine Prod.ext ?_ rfl
    show uval (pre ++ [(b.toNat + 128).toUInt8] ++ pre2 ++ [b2]) = x + y * 128 ^ L
    have e0 : uval [(b.toNat + 128).toUInt8] = uval [b] := by
      simp only [uval, e']
      omega
    have e1 : uval (pre ++ [(b.toNat + 128).toUInt8]) = x := by rw [uval_append, e0, ← uval_append]; exact hv
    rw [List.append_assoc, uval_append, e1, ← he2, uval_uvarint, List.length_append, List.length_singleton, hl, Nat.mul_comm]

end Go.Proofs.Ytnlndimojibimaa
