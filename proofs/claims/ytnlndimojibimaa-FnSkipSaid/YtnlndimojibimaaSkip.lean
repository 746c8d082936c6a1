/-
  What is proved here: the walk of FnSkip: it returns true. Conditions: a list has at most 17592186043904 numbers.
-/
import Derived.Test.YtnlndimojibimaaDec
import Derived.Deep.DeepFit
namespace Go.Proofs.Ytnlndimojibimaa
open Go.RowKit

set_option maxHeartbeats 2000000 in
set_option maxRecDepth 100000 in
theorem walkFnSkip (A : Option Addr) (c : Nat) (zs : List Nat) (k : Int) (w : World) (hr : Rd w A (nc zs)) (hz : ∀ x ∈ zs, x < 18446744073709551616) (hl : zs.length ≤ 17592186043904) (hk0 : -9223372036854775808 ≤ k) (hk1 : k ≤ 9223372036854775807) :
    Calls Try.prog 17 #[.slice A zs.length c, .int .i64 k] w fun e w' => e = .returned (.bool true) ∧ Below w.heap.size w w' := by
  by_cases hneg : k < 0
  · go_enter Try.func17, Try.ntmps17
    go_wp2
    go_ret
    exact ⟨rfl, Below.refl _ _⟩
  · by_cases hbig : (zs.length : Int) ≤ k
    · go_enter Try.func17, Try.ntmps17
      go_wp2
      go_ret
      exact ⟨rfl, Below.refl _ _⟩
    · obtain ⟨k, rfl⟩ := Int.eq_ofNat_of_zero_le (show 0 ≤ k by omega)
      have hklt : k < zs.length := by omega
      obtain ⟨x, hx, hcx⟩ := nc_at hklt
      have hx64 := hz x (mem_of_at hx)
      have hd : zs.drop k = x :: zs.drop (k + 1) := by rw [List.drop_eq_getElem?_toList_append, hx]; rfl
      have HDEC : Hid (Lib.uvarintDec (encL (zs.drop k)) = (x, ((Lib.uvarint x).length : Int))) := by rw [hd, encL_cons, dec_enc hx64]; rfl
      have hst := left_start (zs := zs) (k := k) (j := 0) (List.getElem?_eq_getElem (show 0 < zs.length by omega))
      rw [List.drop_zero] at hst
      have HST := Lib.hid hst
      have hpos : 0 < (encL zs).length := by have := encL_length_ge zs; omega
      have hle := encL_length_le zs hz
      have HCX := Lib.hid hcx
      have HR := Lib.hid hr
      have HZ := Lib.hid hz
      clear hst hd hx hcx hr hz
      go_enter Try.func17, Try.ntmps17
      go_wp2_with fail
      refine (appendList A c zs _ HR.out HZ.out (by omega)).mono ?_
      rintro e w1 ⟨v1, rfl, hown1, hb1⟩
      obtain ⟨g, c1, rfl, hg1, hg2, hn1, _⟩ := own_some hown1 hpos
      have HR1 := Lib.hid ((own_rd hown1).elim fun A h => h.elim fun c h => (by obtain ⟨h1, _, _, h2⟩ := h; injection h1 with h1; rw [← h1] at h2; exact h2 : Rd w1 (some ⟨g, 0, none⟩) (bc (encL zs))))
      clear hown1
      go_wp2
      go_loop [5, 6] (fun s j => ∃ (i off c : Nat) (rest : List UInt8), j = .int .i64 i ∧ i ≤ k ∧ s = .slice (some ⟨g, off, none⟩) rest.length c ∧ rest.length ≤ c ∧ rest.length ≤ (encL zs).length ∧ Rd w1 (some ⟨g, off, none⟩) (bc rest) ∧ Left zs k i rest)
        (fun s _ => match s with | .slice _ n _ => n | _ => 0)
      case atStart => exact ⟨0, 0, c1, encL zs, rfl, Nat.zero_le _, rfl, hn1, Nat.le_refl _, HR1.out, HST.out⟩
      case round =>
        clear HST
        obtain ⟨i, off, c2, rest, rfl, hik, rfl, hrc, hrl, hrd, hleft⟩ := hrel
        by_cases hlt : i < k
        · obtain ⟨b, r, rfl, hr1, hstep⟩ := left_step hleft hlt hklt
          have hrd' := hrd.drop 1
          obtain ⟨_, _, hA, _, hcell⟩ := hrd.at_ (k := 0) (u := .int .u8 (b.toNat : Int)) (by simp [bc, Lib.byteCells])
          injection hA with hA
          injection hA with e1 e2
          subst e1 e2
          rw [Nat.add_zero] at hcell
          rw [bc_drop, List.drop_one, List.tail_cons] at hrd'
          rw [List.length_cons] at hrc hrl
          rw [List.length_cons]
          have hc2 : ¬ c2 = 1 := by omega
          have hne : ((r.length : Int) + 1 == 0) = false := beq_eq_false_iff_ne.2 (by omega)
          have HRD := Lib.hid hrd'
          clear hrd hrd' hleft
          rcases hstep with ⟨hb, hleft⟩ | ⟨hb, hleft⟩
          · have HL := Lib.hid hleft
            clear hleft
            go_wp2
            go_round
            case rel => exact ⟨i + 1, off + 1, c2 - 1, r, by go_num, by omega, by simp, by omega, by omega, HRD.out, HL.out⟩
            case measure => simp
          · have HL := Lib.hid hleft
            clear hleft
            go_wp2
            go_round
            case rel => exact ⟨i, off + 1, c2 - 1, r, rfl, by omega, by simp, by omega, by omega, HRD.out, HL.out⟩
            case measure => simp
        · obtain rfl : i = k := by omega
          have hrest : rest = encL (zs.drop i) := by
            obtain ⟨_, _, _, _, _, hend⟩ := hleft
            exact hend rfl
          clear hleft
          subst hrest
          have hup := Lib.uvarint_length64 hx64
          obtain ⟨gl, offl, rfl, _, hcl⟩ := (HR.out.below hb1).at_ HCX.out
          go_wp2_with fail
          refine (uvarintZ _ _ _ (encL (zs.drop i)) x _ _ hrd rfl HDEC.out).mono ?_
          rintro e w' ⟨rfl, rfl⟩
          go_wp2_with fail
          refine (number x hx64 _).mono ?_
          rintro e w2 ⟨v2, rfl, hown2, hb2⟩
          obtain ⟨A2, c3, rfl, _, _, _⟩ := own_rd hown2
          clear hown2
          go_wp2
          go_ret
          exact ⟨ret_bool (by simp), hb1.trans (hb2.mono hb1.size)⟩
end Go.Proofs.Ytnlndimojibimaa
