/-
  What is proved here: the walk of FnSignedList: it returns true. Conditions: a list has at most 17592186043904 numbers.
-/
import Derived.Test.YtnlndimojibimaaSigned
import Derived.Test.YtnlndimojibimaaBegin
import Derived.Deep.RegionWith
import Derived.Deep.DrawnRows
namespace Go.Proofs.Ytnlndimojibimaa
open Go.RowKit
attribute [local go_sem ↓] Go.wp_at_zero Go.wp_at_succ

def zigs (l : List Int) : List Nat := l.map Lib.zigzag
theorem zigs_length (l : List Int) : (zigs l).length = l.length := by simp [zigs]
theorem one_u64 (z : Int) : ∀ u ∈ [Value.int .u64 z], u.oneCell' = true := by
  intro u hu; rw [List.mem_singleton.1 hu]; rfl

set_option maxHeartbeats 4000000 in
set_option maxRecDepth 100000 in
theorem walkFnSignedList (A : Option Addr) (c : Nat) (zs : List Int) (w : World) (hr : Rd w A (ic zs)) (hz : ∀ x ∈ zs, -9223372036854775808 ≤ x ∧ x ≤ 9223372036854775807) (hl : zs.length ≤ 17592186043904) :
    Calls Try.prog 12 #[.slice A zs.length c] w fun e w' => e = .returned (.bool true) ∧ Below w.heap.size w w' := by
  obtain ⟨i0, hi, hz0, hz1, hz2⟩ := info_parts info_u64
  have HR := Lib.hid hr
  have HZ := Lib.hid hz
  clear hr hz
  go_enter Try.func12, Try.ntmps12
  go_wp2
  go_loopw [3, 9] (fun v i wr => ∃ k : Nat, k ≤ zs.length ∧ i = .int .i64 k ∧ wr.ownsRow w.heap.size 31 1 v k (nc (zigs (zs.take k))) ∧ Below w.heap.size w wr) (fun _ i _ => zs.length - (intOf i).toNat)
  case atStart => exact ⟨0, Nat.zero_le _, rfl, by simpa [nc, zigs] using World.ownsRow_nil _ _ _ _, Below.refl _ _⟩
  case round =>
    obtain ⟨k, hk, rfl, hown, hnx⟩ := hrel
    by_cases hlt : k < zs.length
    · obtain ⟨x, hx, hcx⟩ := ic_at hlt
      obtain ⟨b, off, rfl, hb, hcell⟩ := (HR.out.below hnx).at_ hcx
      obtain ⟨hx0, hx1⟩ := HZ.out x (mem_of_at hx)
      have HX := Lib.hid hx
      have HB := hnx.size
      clear hx hcx
      go_wp2_with fail
      refine (signed x hx0 hx1 _).mono ?_
      rintro e w0 ⟨rfl, rfl⟩
      go_wp2_with (at_builtin; refine wpList_append_own_wide _ rfl _ _ 22 rfl w.heap.size 31 i0 (.int .u64 0) 1 8 Try.underlying22 hi hz0 hz1 hz2 rfl (by decide) _ _ _ rfl (hown.alloc _) ⟨wr.heap.size, 0, none⟩ 1 1 [Value.int .u64 (Lib.zigzag x : Nat)] rfl rfl cell_one (one_u64 _) (by unfold maxLen; omega) (by omega) (by simp; omega) ?_)
      intro v' w1 hown' hgrow _
      have R : Hid (w1.ownsRow w.heap.size 31 1 v' (k + 1) (nc (zigs (zs.take (k + 1))))) := by
        rw [take_snoc HX.out, show nc (zigs (zs.take k ++ [x])) = nc (zigs (zs.take k)) ++ [.int .u64 (Lib.zigzag x : Nat)] by simp [nc, zigs]]
        exact hown'
      have R2 : Hid (Below w.heap.size w w1) := (hnx.alloc HB _).grown hgrow (by simp; omega) (fun j hj => (hown.lt j hj).1)
      clear hown' hgrow hown hnx
      go_wp2
      go_roundw
      case rel => exact ⟨k + 1, by omega, by go_num, R.out, R2.out⟩
      case measure => simp [intOf]; omega
    · obtain rfl : k = zs.length := by omega
      rw [List.take_length] at hown
      obtain ⟨At, ct, ev, _, _, hrt⟩ := own_rd hown
      rw [ev]
      clear ev hown
      have hle := encS_length_le zs HZ.out
      have hge := encS_length_ge zs
      have HRT := Lib.hid hrt
      clear hrt
      go_wp2_with fail
      refine (appendSigned A c zs _ (HR.out.below hnx) HZ.out (by omega)).mono ?_
      rintro e w1 ⟨v1, rfl, hown1, hb1⟩
      obtain ⟨A1, c1, rfl, _, _, hr1⟩ := own_rd hown1
      have B1 : Hid (Below w.heap.size w w1) := hnx.trans (hb1.mono hnx.size)
      have HRT1 := Lib.hid (HRT.out.below hb1)
      clear hown1 hb1 hnx HRT
      have HCALL : Hid (∀ W, Below w1.heap.size w1 W → Calls Try.prog 20 #[.slice At zs.length ct] W fun e w' => ∃ v', e = .returned v' ∧ w'.ownsRow W.heap.size 5 1 v' (encS zs).length (bc (encS zs)) ∧ Below W.heap.size W w') := by
        intro W hW
        have h := appendList At ct (zigs zs) W (HRT1.out.below hW) (by
          intro y hy
          obtain ⟨x, hx, rfl⟩ := List.mem_map.1 hy
          exact Lib.zigzag_lt (HZ.out x hx).1 (HZ.out x hx).2) (by rw [zigs_length]; omega)
        rw [zigs_length] at h
        exact h
      have hcv : ∀ W, Below w1.heap.size w1 W → (convert 23 9 (.slice A1 (encS zs).length c1)).run Try.prog W = .ok (.string ⟨(encS zs).toArray⟩) W := fun W hW => conv_string (hr1.below hW) c1
      have hd1 : Below w1.heap.size w1 w1.drew := (Below.refl _ _).drew
      clear HRT1 hr1
      have HCALL2 : Hid (∀ W, Below w1.heap.size w1 W → Calls Try.prog 20 #[.slice At zs.length ct] W fun e w' => ∃ A2 c2, e = .returned (.slice A2 (encS zs).length c2) ∧ Below w1.heap.size w1 w' ∧ (convert 23 9 (.slice A2 (encS zs).length c2)).run Try.prog w' = .ok (.string ⟨(encS zs).toArray⟩) w') := by
        intro W hW
        refine (HCALL.out W hW).mono ?_
        rintro e w2 ⟨v2, rfl, hown2, hb2⟩
        obtain ⟨A2, c2, rfl, _, _, hr2⟩ := own_rd hown2
        exact ⟨A2, c2, rfl, hW.trans (hb2.mono hW.size), conv_string hr2 c2⟩
      clear HCALL
      generalize ByteArray.mk (encS zs).toArray = X at *
      go_wp2
      go_region_with ((go_at_call 20; refine (HCALL2.out _ ?_).mono ?_; assumption; rintro e w2 ⟨A2, c2, rfl, hB2, hcv2⟩))
      all_goals
        go_wp2
        go_ret
        refine ⟨?_, B1.out.trans (Below.mono (B := w1.heap.size) ?_ B1.out.size)⟩
        · go_simp
        · assumption
end Go.Proofs.Ytnlndimojibimaa
