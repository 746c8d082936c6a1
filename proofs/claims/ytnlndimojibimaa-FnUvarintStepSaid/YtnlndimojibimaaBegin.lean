/-
  What is proved here: the walk of FnListBegin: it returns true. Conditions: a list has at most 17592186043904 numbers.
-/
import Derived.Test.YtnlndimojibimaaEnds
import Derived.Deep.QuietTactic
import Derived.BigQuiet
import Derived.Laws.IdiomStrings
import Derived.Lib.BufferRead
import Derived.Lib.Strings
namespace Go.Proofs.Ytnlndimojibimaa
open Go.RowKit

theorem conv_string {W : World} {A : Option Addr} {bs : List UInt8} (h : Rd W A (bc bs)) (c : Nat) : (convert 23 9 (.slice A bs.length c)).run Try.prog W = .ok (.string ⟨bs.toArray⟩) W := by
  rcases h with h | ⟨b, off, rfl, _, hc⟩
  · have h0 : bs = [] := by simpa [bc, Lib.byteCells] using h
    subst h0
    cases A with
    | none => exact Lib.run_convert_nil_bytes W 23 9 5 c Try.underlying23 Try.underlying5 Try.underlying9
    | some a => exact run_convert_bytes_back W 23 9 5 a c [] Try.underlying23 Try.underlying5 Try.underlying9 (fun j hj => by simp at hj)
  · refine run_convert_bytes_back W 23 9 5 ⟨b, off, none⟩ c bs Try.underlying23 Try.underlying5 Try.underlying9 (fun j hj => ?_)
    rw [addr_add]
    exact hc j _ (by simp [bc, Lib.byteCells, List.getElem?_eq_getElem hj])

theorem below_dr {B : Nat} {a w : World} (h : Below B a w) (q : Nat) : Below B a (w.drewN q) := ⟨h.os, h.tape, h.output, h.size, h.block⟩

theorem str_prefix (X Y : List UInt8) : X <+: Y ↔ (ByteArray.mk X.toArray).size ≤ (ByteArray.mk Y.toArray).size ∧ (ByteArray.mk Y.toArray).extract 0 (ByteArray.mk X.toArray).size = ByteArray.mk X.toArray := by
  have e : ∀ n, (ByteArray.mk Y.toArray).extract 0 n = ByteArray.mk (Y.take n).toArray := by
    intro n
    apply ByteArray.ext
    simp
  have hs : ∀ Z : List UInt8, (ByteArray.mk Z.toArray).size = Z.length := fun Z => by simp [ByteArray.size]
  rw [hs, hs, e]
  constructor
  · intro h
    refine ⟨h.length_le, ?_⟩
    rw [← List.prefix_iff_eq_take.1 h]
  · rintro ⟨_, h⟩
    have h1 := congrArg (fun z : ByteArray => z.data.toList) h
    simp only at h1
    rw [← h1]
    exact List.take_prefix _ _

theorem str_inj {x y : ByteArray} (h : x.toList = y.toList) : x = y := by
  rw [ByteArray.toList_eq, ByteArray.toList_eq] at h
  exact WideShapes.bytes_inj h

def Beg (a b : List Nat) (k : Nat) (bg : Bool) : Prop := (bg = true → a.take k = b.take k ∧ a.length ≤ b.length) ∧ (bg = false → ¬ a <+: b)

theorem beg_true {a b : List Nat} (h : Beg a b a.length true) : a <+: b := by
  obtain ⟨h1, _⟩ := h.1 rfl
  rw [List.take_length] at h1
  rw [h1]
  exact List.take_prefix _ _
theorem beg_step {a b : List Nat} {k x : Nat} (h : Beg a b k true) (ha : a[k]? = some x) (hb : b[k]? = some x) : Beg a b (k + 1) true := by
  refine ⟨fun _ => ⟨?_, (h.1 rfl).2⟩, (fun h => by cases h)⟩
  rw [take_snoc ha, take_snoc hb, (h.1 rfl).1]
theorem beg_stop {a b : List Nat} {k x y : Nat} (ha : a[k]? = some x) (hb : b[k]? = some y) (hne : x ≠ y) : Beg a b (k + 1) false := by
  refine ⟨(fun h => by cases h), fun _ hp => ?_⟩
  obtain ⟨t, rfl⟩ := hp
  rw [List.getElem?_append_left (by rcases Nat.lt_or_ge k a.length with h | h; exact h; rw [List.getElem?_eq_none h] at ha; cases ha), ha] at hb
  exact hne (by injection hb)

set_option maxHeartbeats 4000000 in
set_option maxRecDepth 100000 in
theorem walkFnListBegin (A : Option Addr) (c : Nat) (a : List Nat) (A' : Option Addr) (c' : Nat) (b : List Nat) (w : World) (hr : Rd w A (nc a)) (hz : ∀ x ∈ a, x < 18446744073709551616) (hl : a.length ≤ 17592186043904)
    (hr' : Rd w A' (nc b)) (hz' : ∀ x ∈ b, x < 18446744073709551616) (hl' : b.length ≤ 17592186043904) :
    Calls Try.prog 4 #[.slice A a.length c, .slice A' b.length c'] w fun e w' => e = .returned (.bool true) ∧ Below w.heap.size w w' := by
  have hiff := Lib.hid ((str_prefix (encL a) (encL b)).symm.trans (encL_prefix_iff a b))
  have hsX : (ByteArray.mk (encL a).toArray).size = (encL a).length := by simp [ByteArray.size]
  have hsY : (ByteArray.mk (encL b).toArray).size = (encL b).length := by simp [ByteArray.size]
  have ga := encL_length_ge a
  have gb := encL_length_ge b
  have la := encL_length_le a hz
  have lb := encL_length_le b hz'
  rw [← hsX] at ga la
  rw [← hsY] at gb lb
  clear hsX hsY
  obtain ⟨bg, hbg, hdec⟩ : ∃ bg : Bool, Beg a b 0 bg ∧ decide (a.length ≤ b.length) = bg := by
    by_cases h : a.length ≤ b.length
    · exact ⟨true, ⟨fun _ => ⟨by simp, h⟩, (fun h => by cases h)⟩, by simp [h]⟩
    · exact ⟨false, ⟨(fun h => by cases h), fun _ hp => h hp.length_le⟩, by simp [h]⟩
  have hdecI : decide ((a.length : Int) ≤ (b.length : Int)) = bg := by rw [← hdec]; simp
  have HBG := Lib.hid hbg
  clear hbg
  go_enter Try.func4, Try.ntmps4
  go_wp2_with fail
  refine (appendList A c a _ hr hz (by omega)).mono ?_
  rintro e w1 ⟨v1, rfl, hown1, hb1⟩
  obtain ⟨A1, c1, rfl, _, _, hr1⟩ := own_rd hown1
  have hcv := conv_string hr1 c1
  go_wp2_with fail
  clear hcv
  refine (appendList A' c' b _ (hr'.below hb1) hz' (by omega)).mono ?_
  rintro e w2 ⟨v2, rfl, hown2, hb2⟩
  obtain ⟨A2, c2, rfl, _, _, hr2⟩ := own_rd hown2
  have hcv := conv_string hr2 c2
  have B2 : Below w.heap.size w w2 := hb1.trans (hb2.mono hb1.size)
  clear hb1 hb2 hown1 hown2
  go_wp2
  clear hcv
  clear hdec hdecI hr1 hr2
  generalize ByteArray.mk (encL a).toArray = X at *
  generalize ByteArray.mk (encL b).toArray = Y at *
  go_loopw [7, 8] (fun g i wr => ∃ (k : Nat) (bg : Bool), k ≤ a.length ∧ i = .int .i64 k ∧ g = .bool bg ∧ Beg a b k bg ∧ Below w.heap.size w wr)
    (fun _ i _ => a.length - (intOf i).toNat)
  case atStart => exact ⟨0, bg, Nat.zero_le _, rfl, rfl, HBG.out, B2⟩
  case round =>
    clear HBG B2
    obtain ⟨k, bg, hk, rfl, rfl, hbeg, hnx⟩ := hrel
    cases bg with
    | true =>
      have hab := (hbeg.1 rfl).2
      by_cases hlt : k < a.length
      · obtain ⟨x, hx, hcx⟩ := nc_at hlt
        obtain ⟨y, hy, hcy⟩ := nc_at (show k < b.length by omega)
        obtain ⟨g1, off1, rfl, hg1, hcell1⟩ := (hr.below hnx).at_ hcx
        obtain ⟨g2, off2, rfl, hg2, hcell2⟩ := (hr'.below hnx).at_ hcy
        have hki : (k : Int) < (a.length : Int) := by omega
        have hkj : (k : Int) < (b.length : Int) := by omega
        have hk0 : (0 : Int) ≤ (k : Int) := by omega
        by_cases hxy : x = y
        · subst hxy
          have HB := Lib.hid (beg_step hbeg hx hy)
          clear hbeg hx hy hcx hcy
          go_wp2
          go_quiet (fail)
          go_wp2
          go_roundw
          case rel => exact ⟨k + 1, true, by omega, by go_num, by simp, HB.out, below_dr hnx _⟩
          case measure => simp [intOf]; omega
        · have HB := Lib.hid (beg_stop hx hy hxy)
          have hne : ((x : Int) == (y : Int)) = false := by simp; omega
          clear hbeg hx hy hcx hcy hxy
          go_wp2
          go_quiet (fail)
          go_wp2
          go_roundw
          case rel => exact ⟨k + 1, false, by omega, by go_num, by simp, HB.out, below_dr hnx _⟩
          case measure => simp [intOf]; omega
      · obtain rfl : k = a.length := by omega
        obtain ⟨hle, heq⟩ := hiff.out.2 (beg_true hbeg)
        clear hbeg
        go_wp2
        go_ret
        exact ⟨ret_bool (by simp), hnx⟩
    | false =>
      have hp : ¬ (X.size ≤ Y.size ∧ Y.extract 0 X.size = X) := fun h => hbeg.2 rfl (hiff.out.1 h)
      clear hbeg
      by_cases hle : X.size ≤ Y.size
      · have hne : ¬ X.toList = (Y.extract 0 X.size).toList := fun h => hp ⟨hle, (str_inj h).symm⟩
        clear hp
        go_wp2
        go_ret
        exact ⟨ret_bool (by simp; omega), hnx⟩
      · clear hp
        go_wp2
        go_ret
        exact ⟨ret_bool (by simp), hnx⟩
end Go.Proofs.Ytnlndimojibimaa
