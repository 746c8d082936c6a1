/-
  What is proved here: binary.ReadUvarint over the reader of pieces: a number, the end of the file, an unexpected end. Conditions: io.EOF and io.ErrUnexpectedEOF hold values as their initialisers lay them.
-/
import Derived.Test.YtllkjlfjoadifaaDoorByte
import Derived.Lib.VarintBits
import Derived.Laws.Bits64b
namespace Go.Proofs.YtllkjlfjoadifaaDoor
open Go.RowKit

theorem or_any {acc y k : Nat} (hacc : acc < 128 ^ k) (ha64 : acc < 18446744073709551616) (hy : y * 128 ^ k < 18446744073709551616) : bits .or .u64 (acc : Int) (IntKind.u64.wrap ((y : Int) * 2 ^ (7 * k))) = ((acc + y * 128 ^ k : Nat) : Int) := by
  have e0 : (2 : Nat) ^ (7 * k) = 128 ^ k := (pow128 k).symm
  have e1 : (y : Int) * 2 ^ (7 * k) = ((y * 128 ^ k : Nat) : Int) := by
    rw [← e0, Int.natCast_mul, Int.natCast_pow]; rfl
  have hw : IntKind.u64.wrap ((y * 128 ^ k : Nat) : Int) = ((y * 128 ^ k : Nat) : Int) := by rw [IntKind.wrap_u64]; omega
  rw [e1, hw]
  rw [bits_or_u64_nat _ _ ha64 hy]
  have e2 : acc ||| y * 128 ^ k = acc + y * 128 ^ k := by
    have h := Nat.shiftLeft_add_eq_or_of_lt (b := acc) (i := 7 * k) (by rw [e0]; exact hacc) y
    rw [Nat.shiftLeft_eq, e0] at h
    rw [Nat.or_comm, ← h, Nat.add_comm]
  rw [e2]

theorem or_step {acc k : Nat} {d : UInt8} (hk : k ≤ 8) (hacc : acc < 128 ^ k) : bits .or .u64 (acc : Int) (IntKind.u64.wrap (IntKind.u64.wrap (bits .and .u8 (d.toNat : Int) 127) * 2 ^ (7 * k))) = ((acc + d.toNat % 128 * 128 ^ k : Nat) : Int) := by
  have hd := d.toNat_lt
  have h8 : 128 ^ k ≤ 128 ^ 8 := Nat.pow_le_pow_right (by decide) hk
  have e8 : (128 : Nat) ^ 8 = 72057594037927936 := by decide
  rw [e8] at h8
  have e1 : IntKind.u64.wrap (bits .and .u8 (d.toNat : Int) 127) = ((d.toNat % 128 : Nat) : Int) := by
    rw [u8_and127 (d.toNat : Int) (by omega) (by omega), IntKind.wrap_u64]; omega
  rw [e1]
  have hm : d.toNat % 128 * 128 ^ k ≤ 127 * 128 ^ k := Nat.mul_le_mul_right _ (by omega)
  exact or_any hacc (by omega) (by omega)

theorem uval_take {pre : List UInt8} {k : Nat} {d : UInt8} (h : pre[k]? = some d) : uval (pre.take (k + 1)) = uval (pre.take k) + d.toNat % 128 * 128 ^ k := by
  have hk : k < pre.length := by
    rcases Nat.lt_or_ge k pre.length with h1 | h1
    · exact h1
    · rw [List.getElem?_eq_none h1] at h; cases h
  rw [take_snoc h, uval_append, List.length_take, Nat.min_eq_left (by omega)]
  simp only [uval, Nat.mul_zero, Nat.add_zero]
  rw [Nat.mul_comm]

theorem ret_u64 {a b : Int} {v : Value} (h : a = b) : Ending.returned (.tuple #[.int .u64 a, v]) = .returned (.tuple #[.int .u64 b, v]) := by rw [h]

theorem method_read (a : Addr) (w : World) : (method 189 45 (.pointer (some a)) "ReadByte").run Tryd.prog w = .ok (37, .pointer (some a)) w := by kernel_rfl

set_option maxHeartbeats 2000000 in
set_option maxRecDepth 100000 in
theorem uvNext (w0 w : World) (gv taken n : Nat) (pre : List UInt8) (b : UInt8) (r : List UInt8) (hp : ∀ d ∈ pre, 128 ≤ d.toNat) (hb : b.toNat < 128) (h9 : pre.length ≤ 9) (h1 : pre.length = 9 → b.toNat ≤ 1) (htk : taken < 900000000000000000) (h : Gv w0 w gv taken n (pre ++ b :: r)) :
    Calls Tryd.prog 21 #[.iface 45 (.pointer (some ⟨gv, 0, none⟩))] w fun e w' => e = .returned (.tuple #[.int .u64 (uval (pre ++ [b]) : Nat), .nilIface]) ∧ (∃ m, Gv w0 w' gv (taken + pre.length + 1) m r) ∧ Fr w w' := by
  have HP := Lib.hid hp
  have H1 := Lib.hid h1
  clear hp h1
  have hmeth := method_read ⟨gv, 0, none⟩
  go_enter Tryd.func21, Tryd.ntmps21
  go_wp2
  go_loopw [4, 5, 6] (fun x s i wr => ∃ k m : Nat, k ≤ pre.length ∧ i = .int .i64 k ∧ s = .int .u64 (7 * (k : Int)) ∧ x = .int .u64 (uval (pre.take k) : Nat) ∧ Gv w0 wr gv (taken + k) m (pre.drop k ++ b :: r) ∧ Fr w wr) (fun _ _ i _ => 10 - (intOf i).toNat)
  case atStart => exact ⟨0, n, Nat.zero_le _, rfl, rfl, rfl, h, Fr.refl _⟩
  case round =>
    clear h
    obtain ⟨k, m, hk, rfl, rfl, rfl, hgv, hfr⟩ := hrel
    have HG := Lib.hid hgv
    have HF := Lib.hid hfr
    have hul := uval_lt (pre.take k)
    have HUL := Lib.hid hul
    clear hgv hfr hul
    by_cases hlt : k < pre.length
    · obtain ⟨d, hd⟩ : ∃ d, pre[k]? = some d := ⟨_, List.getElem?_eq_getElem hlt⟩
      have hdr : pre.drop k = d :: pre.drop (k + 1) := by rw [List.drop_eq_getElem?_toList_append, hd]; rfl
      rw [hdr] at HG
      have hd128 := HP.out d (mem_of_at hd)
      have hd256 := d.toNat_lt
      have hor := or_step (d := d) (show k ≤ 8 by omega) (by have := HUL.out; rwa [List.length_take, Nat.min_eq_left (by omega)] at this)
      rw [← uval_take hd] at hor
      clear hdr hd
      go_wp2_with fail
      refine (readByteNext w0 _ gv (taken + k) m d _ (by omega) HG.out).mono ?_
      rintro e w1 ⟨rfl, ⟨m1, hg1⟩, hf1⟩
      have HG1 := Lib.hid hg1
      have HF1 := Lib.hid (HF.out.trans hf1)
      clear hg1 hf1
      go_wp2
      go_roundw
      case rel => exact ⟨k + 1, m1, by omega, by go_num, by go_num, rfl, HG1.out, HF1.out⟩
      case measure => simp [intOf]; omega
    · obtain rfl : k = pre.length := by omega
      rw [List.drop_length, List.nil_append] at HG
      have hacc := HUL.out
      rw [List.take_length] at hacc
      rw [List.take_length]
      have hp9 : 128 ^ pre.length ≤ 128 ^ 9 := Nat.pow_le_pow_right (by decide) h9
      have e9 : (128 : Nat) ^ 9 = 9223372036854775808 := by decide
      rw [e9] at hp9
      have hy : b.toNat * 128 ^ pre.length < 18446744073709551616 := by
        rcases Nat.lt_or_ge pre.length 9 with h | h
        · have h8 : 128 ^ pre.length ≤ 128 ^ 8 := Nat.pow_le_pow_right (by decide) (by omega)
          have e8 : (128 : Nat) ^ 8 = 72057594037927936 := by decide
          rw [e8] at h8
          have hm : b.toNat * 128 ^ pre.length ≤ 127 * 128 ^ pre.length := Nat.mul_le_mul_right _ (by omega)
          omega
        · have hb1 := H1.out (by omega)
          have hm : b.toNat * 128 ^ pre.length ≤ 1 * 128 ^ pre.length := Nat.mul_le_mul_right _ hb1
          omega
      have hor := or_any hacc (by omega) hy
      have hval : uval pre + b.toNat * 128 ^ pre.length = uval (pre ++ [b]) := by
        rw [uval_append]
        simp only [uval]
        rw [Nat.mod_eq_of_lt hb, Nat.mul_comm]
        rfl
      rw [hval] at hor
      have h1b : pre.length = 9 → b.toNat ≤ 1 := H1.out
      clear hval hy hp9 hacc
      by_cases hk9 : pre.length = 9
      · have hb1 := h1b hk9
        have hor9 : bits .or .u64 (uval pre : Nat) ((b.toNat : Int) * 9223372036854775808) = ((uval (pre ++ [b]) : Nat) : Int) := by
          have h := hor
          rw [hk9] at h
          have e : IntKind.u64.wrap ((b.toNat : Int) * 2 ^ (7 * 9)) = (b.toNat : Int) * 9223372036854775808 := by
            rw [show (2 : Int) ^ (7 * 9) = 9223372036854775808 by decide, IntKind.wrap_u64]; omega
          rw [e] at h
          exact h
        have HOR := Lib.hid hor9
        clear h1b hor hor9
        go_wp2_with fail
        refine (readByteNext w0 _ gv (taken + 9) m b _ (by omega) (by have h := HG.out; rw [hk9] at h; exact h)).mono ?_
        rintro e w1 ⟨rfl, ⟨m1, hg1⟩, hf1⟩
        have HG1 := Lib.hid hg1
        have HF1 := Lib.hid (HF.out.trans hf1)
        clear hg1 hf1
        go_wp2
        go_ret2
        exact ⟨ret_u64 HOR.out, ⟨m1, by rw [hk9]; exact HG1.out⟩, HF1.out⟩
      · have hnz : ((pre.length : Int) == 9) = false := beq_eq_false_iff_ne.2 (by omega)
        have hp8 : pre.length ≤ 8 := by omega
        have HOR := Lib.hid hor
        clear h1b hor hk9
        go_wp2_with fail
        refine (readByteNext w0 _ gv (taken + pre.length) m b _ (by omega) HG.out).mono ?_
        rintro e w1 ⟨rfl, ⟨m1, hg1⟩, hf1⟩
        have HG1 := Lib.hid hg1
        have HF1 := Lib.hid (HF.out.trans hf1)
        clear hg1 hf1
        go_wp2
        go_ret2
        exact ⟨ret_u64 HOR.out, ⟨m1, HG1.out⟩, HF1.out⟩
end Go.Proofs.YtllkjlfjoadifaaDoor
