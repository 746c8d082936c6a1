/-
  What is proved here: the walk of FnSignedOpposite: it returns true. Conditions: a list has at most 17592186043904 numbers.
-/
import Derived.Test.YtnlndimojibimaaSigned
import Derived.Test.YtnlndimojibimaaEnds
import Derived.Laws.BitsAllLaws
import Derived.Laws.BitsLemmas
namespace Go.Proofs.Ytnlndimojibimaa
open Go.RowKit

theorem info_i64' : (Try.prog.info? 2).map (fun i => (i.zero, i.size, i.bytes)) = some (some (.int .i64 0), 1, 8) := by kernel_rfl

theorem i64_and (a b : Nat) (ha : a < 9223372036854775808) (hb : b < 9223372036854775808) : bits .and .i64 (a : Int) (b : Int) = ((a &&& b : Nat) : Int) := by
  have hx : a &&& b < 2 ^ 63 := Nat.and_lt_two_pow _ (by omega)
  have e : ∀ n : Nat, n < 9223372036854775808 → (BitVec.ofInt 64 (n : Int)).toNat = n := fun n hn => by
    rw [BitVec.ofInt_natCast, BitVec.toNat_ofNat]; exact Nat.mod_eq_of_lt (by omega)
  show IntKind.i64.wrap ((BitVec.ofInt 64 (a : Int) &&& BitVec.ofInt 64 (b : Int)).toNat : Int) = _
  rw [BitVec.toNat_and, e a ha, e b hb, IntKind.wrap_i64]
  omega

/-- A number that the law looks at: of 62 bits, 0 or no power of two. -/
def Good (x : Int) : Prop := -4611686018427387904 < x ∧ x < 4611686018427387904 ∧ (x = 0 ∨ x.natAbs &&& (x.natAbs - 1) ≠ 0)

def negs (l : List Int) : List Int := l.map fun x => -x
theorem negs_length (l : List Int) : (negs l).length = l.length := by simp [negs]
theorem one_int (z : Int) : ∀ u ∈ [Value.int .i64 z], u.oneCell' = true := by
  intro u hu; rw [List.mem_singleton.1 hu]; rfl

theorem good_len {zs : List Int} (h : ∀ x ∈ zs, Good x) : (encS (negs zs)).length = (encS zs).length := by
  induction zs with
  | nil => rfl
  | cons x r ih =>
    have h1 := ih (fun y hy => h y (by simp [hy]))
    unfold negs at h1 ⊢
    have h2 := zig_opposite (h x (by simp)).2.2
    have e1 : encS ((x :: r).map fun x => -x) = Lib.uvarint (Lib.zigzag (-x)) ++ encS (r.map fun x => -x) := by simp [encS, encL]
    have e2 : encS (x :: r) = Lib.uvarint (Lib.zigzag x) ++ encS r := by simp [encS, encL]
    rw [e1, e2, List.length_append, List.length_append, h1, h2]

theorem good_snoc {zs : List Int} {k : Nat} {x : Int} (hx : zs[k]? = some x) (h : ∀ y ∈ zs.take k, Good y) (hg : Good x) : ∀ y ∈ zs.take (k + 1), Good y := by
  intro y hy
  rw [take_snoc hx] at hy
  rcases List.mem_append.1 hy with hy | hy
  · exact h y hy
  · rw [List.mem_singleton.1 hy]; exact hg

theorem ic_one (zs : List Int) : ∀ u ∈ ic zs, u.oneCell' = true := by
  intro u hu
  obtain ⟨b, _, rfl⟩ := List.mem_map.1 hu
  rfl

def Turned (w : World) (zs : List Int) (k : Nat) (v : Value) (wr : World) : Prop :=
  wr.ownsRow w.heap.size 2 1 v k (ic (negs (zs.take k))) ∧ Below w.heap.size w wr ∧ ∀ y ∈ zs.take k, Good y

set_option maxHeartbeats 4000000 in
set_option maxRecDepth 100000 in
theorem walkFnSignedOpposite (A : Option Addr) (c : Nat) (zs : List Int) (w : World) (hr : Rd w A (ic zs)) (hz : ∀ x ∈ zs, -9223372036854775808 ≤ x ∧ x ≤ 9223372036854775807) (hl : zs.length ≤ 17592186043904) :
    Calls Try.prog 10 #[.slice A zs.length c] w fun e w' => e = .returned (.bool true) ∧ Below w.heap.size w w' := by
  obtain ⟨i0, hi, hz0, hz1, hz2⟩ := info_parts info_i64'
  have HR := Lib.hid hr
  have HZ := Lib.hid hz
  clear hr hz
  have hb00 : bits .and .i64 0 (-1) = 0 := by decide
  go_enter Try.func10, Try.ntmps10
  go_wp2
  go_loopw [3, 10] (fun v i wr => ∃ k : Nat, k ≤ zs.length ∧ i = .int .i64 k ∧ Turned w zs k v wr) (fun _ i _ => zs.length - (intOf i).toNat)
  case atStart => exact ⟨0, Nat.zero_le _, rfl, by simpa [ic, negs] using World.ownsRow_nil _ _ _ _, Below.refl _ _, by simp⟩
  case round =>
    obtain ⟨k, hk, rfl, hT⟩ := hrel
    have HT := Lib.hid hT
    clear hT
    by_cases hlt : k < zs.length
    · obtain ⟨x, hx, hcx⟩ := ic_at hlt
      obtain ⟨b, off, rfl, hb, hcell⟩ := (HR.out.below HT.out.2.1).at_ hcx
      obtain ⟨hx0, hx1⟩ := HZ.out x (mem_of_at hx)
      have HX := Lib.hid hx
      have HB := HT.out.2.1.size
      clear hx hcx
      -- what the append leaves
      have HAPP : Hid (Good x → ∀ v' w', w'.ownsRow w.heap.size 2 1 v' (k + 1) (ic (negs (zs.take k)) ++ [.int .i64 (-x)]) → Below w.heap.size w w' → Turned w zs (k + 1) v' w') := by
        intro hg v' w' ho hbw
        refine ⟨?_, hbw, good_snoc HX.out HT.out.2.2 hg⟩
        rw [take_snoc HX.out, show ic (negs (zs.take k ++ [x])) = ic (negs (zs.take k)) ++ [.int .i64 (-x)] by simp [ic, negs]]
        exact ho
      by_cases hxz : x = 0
      · subst hxz
        have hg : Good 0 := ⟨by omega, by omega, .inl rfl⟩
        have HG := Lib.hid hg
        clear hg
        have e0 : (-(0 : Int)) = 0 := rfl
        go_wp2_with (at_builtin; refine wpList_append_own_wide _ rfl _ _ 34 rfl w.heap.size 2 i0 (.int .i64 0) 1 8 Try.underlying34 hi hz0 hz1 hz2 rfl (by decide) _ _ _ rfl (HT.out.1.alloc _) ⟨wr.heap.size, 0, none⟩ 1 1 [Value.int .i64 (0)] rfl rfl cell_one (one_int _) (by unfold maxLen; omega) (by omega) (by simp; omega) ?_)
        intro v' w1 hown' hgrow _
        have R : Hid (Turned w zs (k + 1) v' w1) := HAPP.out HG.out v' w1 (by rw [e0]; exact hown') ((HT.out.2.1.alloc HB _).grown hgrow (by simp; omega) (fun j hj => (HT.out.1.lt j hj).1))
        clear hown' hgrow
        go_wp2
        go_roundw
        case rel => exact ⟨k + 1, by omega, by go_num, R.out⟩
        case measure => simp [intOf]; omega
      by_cases hpos : 0 < x
      · obtain ⟨n, rfl⟩ := Int.eq_ofNat_of_zero_le (show 0 ≤ x by omega)
        by_cases hbig : 4611686018427387904 ≤ (n : Int)
        · go_wp2
          go_ret
          exact ⟨rfl, HT.out.2.1⟩
        · have hand : bits .and .i64 (n : Int) ((n : Int) - 1) = ((n &&& (n - 1) : Nat) : Int) := by
            have h := i64_and n (n - 1) (by omega) (by omega)
            rwa [show ((n - 1 : Nat) : Int) = (n : Int) - 1 by omega] at h
          by_cases hp2 : n &&& (n - 1) = 0
          · have ht : (bits .and .i64 (n : Int) ((n : Int) - 1) == 0) = true := by rw [hand, hp2]; rfl
            clear hand hp2
            go_wp2
            go_ret
            exact ⟨rfl, HT.out.2.1⟩
          · have ht : (bits .and .i64 (n : Int) ((n : Int) - 1) == 0) = false := by rw [hand]; exact beq_eq_false_iff_ne.2 (by omega)
            have hg : Good (n : Int) := ⟨by omega, by omega, .inr (by simpa using hp2)⟩
            have HG := Lib.hid hg
            clear hg hand hp2
            go_wp2_with (at_builtin; refine wpList_append_own_wide _ rfl _ _ 34 rfl w.heap.size 2 i0 (.int .i64 0) 1 8 Try.underlying34 hi hz0 hz1 hz2 rfl (by decide) _ _ _ rfl (HT.out.1.alloc _) ⟨wr.heap.size, 0, none⟩ 1 1 [Value.int .i64 (-(n : Int))] rfl rfl cell_one (one_int _) (by unfold maxLen; omega) (by omega) (by simp; omega) ?_)
            intro v' w1 hown' hgrow _
            have R : Hid (Turned w zs (k + 1) v' w1) := HAPP.out HG.out v' w1 hown' ((HT.out.2.1.alloc HB _).grown hgrow (by simp; omega) (fun j hj => (HT.out.1.lt j hj).1))
            clear hown' hgrow
            go_wp2
            go_roundw
            case rel => exact ⟨k + 1, by omega, by go_num, R.out⟩
            case measure => simp [intOf]; omega
      · obtain ⟨n, hn⟩ := Int.eq_ofNat_of_zero_le (show 0 ≤ -x by omega)
        obtain rfl : x = -(n : Int) := by omega
        clear hn
        by_cases hmin : 9223372036854775808 ≤ n
        · have hw : wrap64 (n : Int) < 0 := by unfold wrap64; omega
          go_wp2
          go_ret
          exact ⟨rfl, HT.out.2.1⟩
        by_cases hbig : 4611686018427387904 ≤ (n : Int)
        · go_wp2
          go_ret
          exact ⟨rfl, HT.out.2.1⟩
        · have hand : bits .and .i64 (n : Int) ((n : Int) - 1) = ((n &&& (n - 1) : Nat) : Int) := by
            have h := i64_and n (n - 1) (by omega) (by omega)
            rwa [show ((n - 1 : Nat) : Int) = (n : Int) - 1 by omega] at h
          have hnn : - -(n : Int) = (n : Int) := by omega
          by_cases hp2 : n &&& (n - 1) = 0
          · have ht : (bits .and .i64 (n : Int) ((n : Int) - 1) == 0) = true := by rw [hand, hp2]; rfl
            clear hand hp2
            go_wp2
            go_ret
            exact ⟨rfl, HT.out.2.1⟩
          · have ht : (bits .and .i64 (n : Int) ((n : Int) - 1) == 0) = false := by rw [hand]; exact beq_eq_false_iff_ne.2 (by omega)
            have hg : Good (-(n : Int)) := ⟨by omega, by omega, .inr (by simpa using hp2)⟩
            have HG := Lib.hid hg
            clear hg hand hp2
            go_wp2_with (at_builtin; refine wpList_append_own_wide _ rfl _ _ 34 rfl w.heap.size 2 i0 (.int .i64 0) 1 8 Try.underlying34 hi hz0 hz1 hz2 rfl (by decide) _ _ _ rfl (HT.out.1.alloc _) ⟨wr.heap.size, 0, none⟩ 1 1 [Value.int .i64 ((n : Int))] rfl rfl cell_one (one_int _) (by unfold maxLen; omega) (by omega) (by simp; omega) ?_)
            intro v' w1 hown' hgrow _
            have R : Hid (Turned w zs (k + 1) v' w1) := HAPP.out HG.out v' w1 (by rw [Int.neg_neg]; exact hown') ((HT.out.2.1.alloc HB _).grown hgrow (by simp; omega) (fun j hj => (HT.out.1.lt j hj).1))
            clear hown' hgrow
            go_wp2
            go_roundw
            case rel => exact ⟨k + 1, by omega, by go_num, R.out⟩
            case measure => simp [intOf]; omega
    · obtain rfl : k = zs.length := by omega
      have hlen := good_len HT.out.2.2
      rw [List.take_length] at hlen
      obtain ⟨hown, hbw, hgood⟩ := HT.out
      rw [List.take_length] at hown hgood
      obtain ⟨At, ct, ev, _, _, hrt⟩ := own_rd hown
      have hle := encS_length_le zs HZ.out
      have hge := encS_length_ge zs
      have HLN := Lib.hid hlen
      have HG := Lib.hid hgood
      clear hlen hgood hown
      rw [ev]
      clear ev
      go_wp2_with fail
      refine (appendSigned A c zs _ (HR.out.below hbw) HZ.out (by omega)).mono ?_
      rintro e w1 ⟨v1, rfl, hown1, hb1⟩
      obtain ⟨A1, c1, rfl, _, _, _⟩ := own_rd hown1
      have B1 : Hid (Below w.heap.size w w1) := hbw.trans (hb1.mono hbw.size)
      have hcall := appendSigned At ct (negs zs) w1 (hrt.below hb1) (by
        intro y hy
        obtain ⟨x, hx, rfl⟩ := List.mem_map.1 hy
        have := HG.out x hx
        unfold Good at this
        omega) (by rw [negs_length]; omega)
      rw [negs_length, HLN.out] at hcall
      have HC := Lib.hid hcall
      clear hcall hown1 hb1 hbw hrt
      generalize (encS zs).length = n at *
      go_wp2_with fail
      refine HC.out.mono ?_
      rintro e w2 ⟨v2, rfl, hown2, hb2⟩
      obtain ⟨A2, c2, rfl, _, _, _⟩ := own_rd hown2
      clear hown2 HC
      go_wp2
      go_ret
      exact ⟨ret_bool (by simp), B1.out.trans (hb2.mono B1.out.size)⟩
end Go.Proofs.Ytnlndimojibimaa
