/-
  What is proved here: what laws.whole answers where every byte asks for more; how a slice in the midst of a row is cut. Conditions: none.
-/
import Derived.Test.YtnlndimojibimaaCutc
import Derived.Test.YtnlndimojibimaaStream
import Derived.Test.YtnlndimojibimaaDec
import Derived.Test.YtnlndimojibimaaSigned
namespace Go.Proofs.Ytnlndimojibimaa
open Go.RowKit

set_option maxHeartbeats 1000000 in
set_option maxRecDepth 100000 in
theorem wholeC (A : Option Addr) (c : Nat) (bs : List UInt8) (w : World) (hr : Rd w A (bc bs)) (hb : ∀ d ∈ bs, 128 ≤ d.toNat) (hl : bs.length ≤ 1000) :
    Calls Try.prog 33 #[.slice A bs.length c] w fun e w' => e = .returned (.bool false) ∧ w = w' := by
  have HBB := Lib.hid hb
  clear hb
  go_enter Try.func33, Try.ntmps33
  go_wp2
  go_loop [7] (fun i => ∃ k : Nat, k ≤ bs.length ∧ i = .int .i64 k) (fun i => bs.length - (intOf i).toNat)
  case atStart => exact ⟨0, Nat.zero_le _, rfl⟩
  case round =>
    obtain ⟨k, hk, rfl⟩ := hrel
    by_cases hlt : k < bs.length
    · obtain ⟨d, hd, hcd⟩ := bc_at hlt
      obtain ⟨g, off, rfl, hg, hcell⟩ := hr.at_ hcd
      have h128 := HBB.out d (mem_of_at hd)
      clear hd hcd
      go_wp2
      go_round
      case rel => exact ⟨k + 1, by omega, by go_num⟩
      case measure => simp [intOf]; omega
    · obtain rfl : k = bs.length := by omega
      go_wp2
      go_ret
      exact ⟨rfl, rfl⟩

theorem Mid.some_ {w : World} {base : Nat} {v : Value} {bs : List UInt8} (h : Mid w base v bs) (hl : 0 < bs.length) : ∃ g off cap, v = .slice (some ⟨g, off, none⟩) bs.length cap ∧ bs.length ≤ cap ∧ cap ≤ maxLen := by
  rcases h with ⟨_, rfl⟩ | ⟨g, off, cap, cur, hv, _, _, hc, hm, _⟩
  · simp at hl
  · exact ⟨g, off, cap, hv, hc, hm⟩
theorem Mid.drop {w : World} {base g off cap : Nat} {bs : List UInt8} (h : Mid w base (.slice (some ⟨g, off, none⟩) bs.length cap) bs) {n : Nat} (hn : n ≤ bs.length) : Mid w base (.slice (some ⟨g, off + n, none⟩) (bs.length - n) (cap - n)) (bs.drop n) := by
  rcases h with ⟨h, _⟩ | ⟨g', off', cap', cur, hv, hb, hh, hc, hm, hs, ht⟩
  · cases h
  · injection hv with h1 _ h2
    injection h1 with h1
    injection h1 with e1 e2
    subst e1 e2 h2
    refine .inr ⟨g, off + n, cap - n, cur, by rw [List.length_drop], hb, hh, by rw [List.length_drop]; omega, by omega, by omega, ?_⟩
    have e : bc (bs.drop n) = (bc bs).drop n := by simp [bc, Lib.byteCells]
    rw [e, ← ht, List.drop_take, List.drop_drop, List.length_drop]
theorem Mid.gone {w : World} {base g off cap : Nat} {bs : List UInt8} (h : Mid w base (.slice (some ⟨g, off, none⟩) bs.length cap) bs) : Mid w base (.slice (some ⟨g, off, none⟩) 0 0) [] := by
  rcases h with ⟨h, _⟩ | ⟨g', off', cap', cur, hv, hb, hh, hc, hm, hs, ht⟩
  · cases h
  · injection hv with h1 _ h2
    injection h1 with h1
    injection h1 with e1 e2
    subst e1 e2 h2
    exact .inr ⟨g, off, 0, cur, rfl, hb, hh, Nat.le_refl _, Nat.zero_le _, by omega, by simp [bc, Lib.byteCells]⟩

theorem own_mid_ne {w : World} {b1 b2 : Nat} {e : TypeId} {n : Nat} {v v' : Value} {xs : List Value} {bs : List UInt8} (h : w.ownsRow b1 e 1 v n xs) (hm : Mid w b2 v' bs) (he : e ≠ 5) : (v.ownBlock = none ∨ v.ownBlock ≠ v'.ownBlock) ∧ (v'.ownBlock = none ∨ v'.ownBlock ≠ v.ownBlock) := by
  rcases h.2 with ⟨rfl, _⟩ | ⟨g, cap, cur, rfl, _, hh, _⟩
  · refine ⟨.inl rfl, ?_⟩
    cases h' : v'.ownBlock with
    | none => exact .inl rfl
    | some k => exact .inr (by simp [Value.ownBlock])
  · rcases hm with ⟨rfl, _⟩ | ⟨g', off, cap', cur', rfl, _, hh', _⟩
    · exact ⟨.inr (by simp [Value.ownBlock]), .inl rfl⟩
    · have hne : g ≠ g' := by
        rintro rfl
        rw [hh] at hh'
        injection hh' with hh'
        injection hh' with _ ht
        exact he ht
      exact ⟨.inr (by simpa [Value.ownBlock] using hne), .inr (by simpa [Value.ownBlock] using Ne.symm hne)⟩

theorem varintZ (A : Option Addr) (n c : Nat) (bs : List UInt8) (x m : Int) (w : World) (hr : Rd w A (bc bs)) (hn : bs.length = n) (hd : Lib.varintDec bs = (x, m)) :
    Calls Try.prog 35 #[.slice A n c] w fun e w' => e = .returned (.tuple #[.int .i64 x, .int .i64 m]) ∧ w = w' := by
  have h := bin_varint A n c bs w hr hn
  rw [hd] at h
  have H := Lib.hid h
  clear h hd hr hn
  go_enter Try.func35, Try.ntmps35
  go_wp2_with fail
  refine H.out.mono ?_
  rintro e w' ⟨rfl, rfl⟩
  go_wp2
  go_ret2
  exact ⟨rfl, rfl⟩

theorem unzig (y : Int) : Lib.unzigzag (Lib.zigzag y) = y := by
  unfold Lib.unzigzag Lib.zigzag
  split <;> split <;> omega
theorem varint_of {B : List UInt8} {y m : Int} (h : Lib.uvarintDec B = (Lib.zigzag y, m)) : Lib.varintDec B = (y, m) := by
  unfold Lib.varintDec
  rw [h, unzig]
theorem varint_zero {B : List UInt8} (h : Lib.uvarintDec B = (0, 0)) : Lib.varintDec B = (0, 0) := by
  unfold Lib.varintDec
  rw [h]
  rfl
end Go.Proofs.Ytnlndimojibimaa
