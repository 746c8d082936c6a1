/-
  What is proved here: spec.All returns all bytes of the parts, one after the other, in memory of the call's own. Conditions: at most 1000000000 bytes and parts.
-/
import Derived.Test.YtbioeknobmcbiaaDp
namespace Go.Proofs.Ytbioeknobmcbiaa
open Go.RowKit

theorem own_lit0 (w : World) (e : TypeId) : (w.alloc (.cells #[] e)).ownsRow w.heap.size e 1 (.slice (some ⟨w.heap.size, 0, none⟩) 0 0) 0 [] := by
  have h := World.ownsRow_lit (e := e) (size := 1) w #[] 0 (Nat.le_refl _) (Nat.zero_le _) rfl
  simpa using h

set_option maxHeartbeats 2000000 in
set_option maxRecDepth 100000 in
theorem all_ (w : World) (A : Option Addr) (c : Nat) (ps : List Value) (bss : List (List UInt8)) (all : List UInt8) (ha : bss.flatten = all) (hr : Rd w A ps) (hp : Parts w ps bss) (hl : all.length ≤ 1000000000) (hn : bss.length ≤ 1000000000) :
    Calls Try.prog 12 #[.slice A bss.length c] w fun e w' => ∃ v, e = .returned v ∧ w'.ownsRow w.heap.size 5 1 v all.length (bc all) ∧ Below w.heap.size w w' := by
  have HR := Lib.hid hr
  have HP := Lib.hid hp
  have HA := Lib.hid ha
  have HST := Lib.hid (own_lit0 w 5)
  clear hr hp ha
  go_enter Try.func12, Try.ntmps12
  go_wp2
  go_loopw [3, 4] (fun o i wr => ∃ k : Nat, k ≤ bss.length ∧ i = .int .i64 k ∧ wr.ownsRow w.heap.size 5 1 o (sumTo bss k) (bc (bss.take k).flatten) ∧ Below w.heap.size w wr) (fun _ i _ => bss.length - (intOf i).toNat)
  case atStart => exact ⟨0, Nat.zero_le _, rfl, HST.out, (Below.refl _ _).alloc (Nat.le_refl _) _⟩
  case round =>
    clear HST
    obtain ⟨k, hk, rfl, hown, hbw⟩ := hrel
    have hs := sumTo_le bss k
    rw [HA.out] at hs
    have HO := Lib.hid hown
    have HB := Lib.hid hbw
    obtain ⟨A1, c1, rfl, _, _, _⟩ := own_rd hown
    clear hown hbw
    by_cases hlt : k < bss.length
    · obtain ⟨bs, hbs⟩ : ∃ bs, bss[k]? = some bs := ⟨_, List.getElem?_eq_getElem hlt⟩
      obtain ⟨Ak, ck, hpk, hck, hcm, hrk⟩ := HP.out.2 k bs hbs
      obtain ⟨bp, op, rfl, hbp, hcell⟩ := (HR.out.below HB.out).at_ hpk
      have HRK := Lib.hid (hrk.below HB.out)
      have HBS := Lib.hid hbs
      have hs1 := sumTo_le bss (k + 1)
      rw [sumTo_succ hbs, HA.out] at hs1
      have hki0 : (0 : Int) ≤ (k : Int) := by omega
      have hki : (k : Int) < (bss.length : Int) := by omega
      clear hbs hpk hrk
      go_wp2_with (at_builtin; refine wpList_app _ rfl _ _ rfl w.heap.size _ (sumTo bss k) (bc (bss.take k).flatten) rfl HO.out Ak bs.length ck (bc bs) rfl HRK.out (bc_length bs) (bc_one bs) (by omega) HB.out.size ?_; intro v1 w1 hown1 hg1 hm1; have HO1 := Lib.hid hown1; have HB1 := Lib.hid (HB.out.grown hg1 HB.out.size (fun j hj => (own_lt HO.out j hj).1)); clear hown1 hg1 hm1)
      go_roundw
      case rel => exact ⟨k + 1, by omega, by go_num, by rw [sumTo_succ HBS.out, flat_succ HBS.out, bc_append]; exact HO1.out, HB1.out⟩
      case measure => simp [intOf]; omega
    · obtain rfl : k = bss.length := by omega
      have HS := Lib.hid (show sumTo bss bss.length = all.length by unfold sumTo; rw [List.take_length, HA.out])
      have HF : Hid (wr.ownsRow w.heap.size 5 1 (.slice A1 (sumTo bss bss.length) c1) all.length (bc all)) := Lib.hid (by
        have h := HO.out
        rw [List.take_length, HA.out] at h
        rw [← HS.out]
        exact h)
      go_wp2
      go_ret
      exact ⟨_, rfl, HF.out, HB.out⟩
end Go.Proofs.Ytbioeknobmcbiaa
