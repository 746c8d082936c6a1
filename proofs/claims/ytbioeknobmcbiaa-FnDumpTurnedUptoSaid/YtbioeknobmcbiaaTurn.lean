/-
  What is proved here: the walk of FnDumpTurned: it returns true. Conditions: at most 1048576 bytes and parts.
-/
import Derived.Test.YtbioeknobmcbiaaBack
import Derived.Deep.RegionHeld
namespace Go.Proofs.Ytbioeknobmcbiaa
open Go.RowKit

theorem info_bytes : (Try.prog.info? 25).map (fun i => (i.zero, i.size, i.bytes)) = some (some (.slice none 0 0), 1, 24) := by kernel_rfl
theorem one_slice (A : Option Addr) (n c : Nat) : ∀ u ∈ [Value.slice A n c], u.oneCell' = true := by
  intro u hu; rw [List.mem_singleton.1 hu]; rfl
theorem Parts.reverse {w : World} {ps : List Value} {bss : List (List UInt8)} (h : Parts w ps bss) : Parts w ps.reverse bss.reverse := by
  refine ⟨by simp [h.1], fun j bs hj => ?_⟩
  have hlt : j < bss.length := by have := (List.getElem?_eq_some_iff.1 hj).1; simpa using this
  rw [List.getElem?_reverse hlt] at hj
  obtain ⟨A, c, h1, h2⟩ := h.2 _ bs hj
  refine ⟨A, c, ?_, h2⟩
  rw [List.getElem?_reverse (by rw [h.1]; exact hlt), h.1]
  exact h1
theorem flat_reverse_length (bss : List (List UInt8)) : bss.reverse.flatten.length = bss.flatten.length := by
  induction bss with
  | nil => rfl
  | cons b r ih => simp only [List.reverse_cons, List.flatten_append, List.length_append, List.flatten_cons, List.flatten_nil, ih, List.append_nil]; omega
theorem drop_rev {α : Type} {ps : List α} {q : Nat} {v : α} (h : ps[q]? = some v) : (ps.drop q).reverse = (ps.drop (q + 1)).reverse ++ [v] := by
  obtain ⟨hlt, e⟩ := List.getElem?_eq_some_iff.1 h
  rw [List.drop_eq_getElem_cons hlt, List.reverse_cons, e]

theorem dumpWrittenN {w : World} {A : Option Addr} {c n : Nat} {ps : List Value} {bss : List (List UInt8)} {all : List UInt8} (hn : bss.length = n) (ha : bss.flatten = all) (hr : Rd w A ps) (hp : Parts w ps bss) (hl : all.length ≤ 1000000000) (hl2 : n ≤ 1000000000) :
    Calls Try.prog 11 #[.slice A n c] w fun e w' => e = .returned (.tuple #[.string (bstr (dumpFrom 0 all)), .int .i64 (all.length : Int)]) ∧ Below w.heap.size w w' := by
  subst hn
  exact dumpWritten w A c ps bss all ha hr hp hl hl2
theorem allN {w : World} {A : Option Addr} {c n m : Nat} {ps : List Value} {bss : List (List UInt8)} {all : List UInt8} (hn : bss.length = n) (ha : bss.flatten = all) (hm : all.length = m) (hr : Rd w A ps) (hp : Parts w ps bss) (hl : m ≤ 1000000000) (hl2 : n ≤ 1000000000) :
    Calls Try.prog 12 #[.slice A n c] w fun e w' => ∃ A' c', e = .returned (.slice A' m c') ∧ Rd w' A' (bc all) ∧ Below w.heap.size w w' := by
  subst hn; subst hm
  refine (all_ w A c ps bss all ha hr hp hl hl2).mono ?_
  rintro e w' ⟨v, rfl, hown, hb⟩
  obtain ⟨A', c', rfl, _, _, hr'⟩ := own_rd hown
  exact ⟨A', c', rfl, hr', hb⟩
theorem undumpN {w : World} {ds : List UInt8} {T : ByteArray} {n : Nat} (hT : bstr (dumpFrom 0 ds) = T) (hn : ds.length = n) (hl : n ≤ 1048576) :
    Calls Try.prog 16 #[.string T] w fun e w' => ∃ v, e = .returned (.tuple #[v, .bool true]) ∧ w'.ownsRow w.heap.size 5 1 v n (bc ds) ∧ Below w.heap.size w w' := by
  subst hT; subst hn
  exact undump w ds hl
theorem convN {W : World} {A : Option Addr} {bs : List UInt8} {n : Nat} (hn : bs.length = n) (h : Rd W A (bc bs)) (c : Nat) : (convert 25 9 (.slice A n c)).run Try.prog W = .ok (.string (bstr bs)) W := by
  subst hn
  exact conv_string h c

/-- a conversion's run under a name of its own: the walk then does not lay it open -/
theorem runF (s d : TypeId) (v : Value) : ∃ F : World → Result Value, ∀ w, (convert s d v).run Try.prog w = F w := ⟨_, fun _ => rfl⟩
set_option maxHeartbeats 1000000 in
set_option maxRecDepth 100000 in
theorem walkFnDumpTurned (A : Option Addr) (c : Nat) (ps : List Value) (bss : List (List UInt8)) (w : World) (hr : Rd w A ps) (hp : Parts w ps bss) (_hcap : bss.length ≤ c) (_hcm : c ≤ maxLen) (hn : bss.length ≤ 1048576) (hl : bss.flatten.length ≤ 1048576) :
    Calls Try.prog 5 #[.slice A bss.length c] w fun e w' => e = .returned (.bool true) ∧ Below w.heap.size w w' := by
  obtain ⟨i0, hi, hz0, hz1, hz2⟩ := info_parts info_bytes
  obtain ⟨all, ha⟩ : ∃ all, bss.flatten = all := ⟨_, rfl⟩
  obtain ⟨rev, hrv⟩ : ∃ rev, bss.reverse.flatten = rev := ⟨_, rfl⟩
  have hrl : rev.length = all.length := by rw [← ha, ← hrv]; exact flat_reverse_length bss
  rw [ha] at hl
  obtain ⟨X, hX⟩ : ∃ X, bstr (dumpFrom 0 all) = X := ⟨_, rfl⟩
  obtain ⟨Y, hY⟩ : ∃ Y, bstr (dumpFrom 0 rev) = Y := ⟨_, rfl⟩
  have hYX : Y.size = X.size := by rw [← hX, ← hY, bstr_size, bstr_size, dump_len, dump_len, hrl]
  have HR := Lib.hid hr
  have HP := Lib.hid hp
  have HA := Lib.hid ha
  have HRV := Lib.hid hrv
  have HRL := Lib.hid hrl
  have HX := Lib.hid hX
  have HY := Lib.hid hY
  have HYX := Lib.hid hYX
  have HPL := Lib.hid (show ps.length = bss.length from hp.1)
  clear hr hp ha hX hY hYX hrv hrl _hcm _hcap
  go_enter Try.func5, Try.ntmps5
  go_wp2
  go_loopw [3, 4] (fun o i wr => ∃ (r : Nat) (z : Int), r ≤ bss.length ∧ i = .int .i64 z ∧ z = (r : Int) - 1 ∧ wr.ownsRow w.heap.size 25 1 o (bss.length - r) (ps.drop r).reverse ∧ Below w.heap.size w wr) (fun _ i _ => (intOf i + 1).toNat)
  case atStart => exact ⟨bss.length, _, Nat.le_refl _, rfl, rfl, by rw [Nat.sub_self, List.drop_of_length_le (by rw [HPL.out]; exact Nat.le_refl _)]; exact World.ownsRow_nil _ _ _ _, Below.refl _ _⟩
  case round =>
    obtain ⟨r, z, hrn, rfl, hz, hown, hbw⟩ := hrel
    have HO := Lib.hid hown
    have HB := Lib.hid hbw
    cases r with
    | succ q =>
      obtain ⟨A1, c1, rfl, _, _, _⟩ := own_rd hown
      obtain rfl : z = (q : Int) := by omega
      clear hown hbw hz
      obtain ⟨v, hv⟩ : ∃ v, ps[q]? = some v := ⟨_, List.getElem?_eq_getElem (by rw [HPL.out]; omega)⟩
      obtain ⟨bs, hbs⟩ : ∃ bs, bss[q]? = some bs := ⟨_, List.getElem?_eq_getElem (by omega)⟩
      obtain ⟨Ak, ck, hpk, hck, hcm, hrk⟩ := HP.out.2 q bs hbs
      obtain rfl : v = .slice Ak bs.length ck := by rw [hv] at hpk; injection hpk
      obtain ⟨bp, op, rfl, hbp, hcell⟩ := (HR.out.below HB.out).at_ hpk
      have HV := Lib.hid hv
      have hki0 : (0 : Int) ≤ (q : Int) := by omega
      have hki : (q : Int) < (bss.length : Int) := by omega
      clear hbs hpk hrk hv
      have hsz := HB.out.size
      go_wp2_with (at_builtin; refine wpList_append_own_wide _ rfl _ _ 22 rfl w.heap.size 25 i0 (.slice none 0 0) 1 24 Try.underlying22 hi hz0 hz1 hz2 rfl (by decide) _ _ _ rfl (HO.out.alloc _) ⟨wr.heap.size, 0, none⟩ 1 1 [Value.slice Ak bs.length ck] rfl rfl cell_one (one_slice _ _ _) (by unfold maxLen; omega) (by omega) (by simp; omega) ?_)
      intro v' w1 hown' hgrow _
      have HO1 := Lib.hid hown'
      have HB1 := Lib.hid ((HB.out.alloc HB.out.size _).grown hgrow (by simp; omega) (fun j hj => (HO.out.lt j hj).1))
      clear hown' hgrow
      go_wp2
      go_roundw
      case rel => exact ⟨q, _, by omega, rfl, by omega, by rw [drop_rev HV.out, show bss.length - q = bss.length - (q + 1) + 1 by omega]; exact HO1.out, HB1.out⟩
      case measure => simp [intOf]
    | zero =>
      obtain rfl : z = -1 := by omega
      rw [Nat.sub_zero, List.drop_zero] at hown
      obtain ⟨A1, c1, rfl, hc1, _, hr1⟩ := own_rd hown
      clear hz hrn HO
      have HRR := Lib.hid hr1
      have HPR := Lib.hid ((HP.out.below HB.out).reverse)
      have HLR := Lib.hid (show bss.reverse.length = bss.length by simp)
      clear hown hbw hr1 hi hz0 hz1 hz2 i0
      go_wp2_with fail
      refine (dumpWritten wr A c ps bss all HA.out (HR.out.below HB.out) (HP.out.below HB.out) (by omega) (by omega)).mono ?_
      rintro e w1 ⟨rfl, hb1⟩
      have B1 := Lib.hid (HB.out.trans (hb1.mono HB.out.size))
      have HRR1 := Lib.hid (HRR.out.below hb1)
      have HPR1 := Lib.hid (HPR.out.below hb1)
      clear hb1 HRR HPR HB
      rw [HX.out]
      go_wp2_with fail
      refine (dumpWrittenN HLR.out HRV.out HRR1.out HPR1.out (by rw [HRL.out]; omega) (by omega)).mono ?_
      rintro e w2 ⟨rfl, hb2⟩
      have B2 := Lib.hid (B1.out.trans (hb2.mono B1.out.size))
      have HRR2 := Lib.hid (HRR1.out.below hb2)
      have HPR2 := Lib.hid (HPR1.out.below hb2)
      clear hb2 HRR1 HPR1 B1
      rw [HY.out, HRL.out]
      go_wp2_with fail
      refine (undumpN HY.out HRL.out (by omega)).mono ?_
      rintro e w3 ⟨v3, rfl, hown3, hb3⟩
      obtain ⟨A3, c3, rfl, _, _, hr3⟩ := own_rd hown3
      have B3 := Lib.hid (B2.out.trans (hb3.mono B2.out.size))
      have HCALL := Lib.hid (allN (w := w3.drew) (A := A1) (c := c1) HLR.out HRV.out HRL.out (HRR2.out.below (below_dr1 hb3)) (HPR2.out.below (below_dr1 hb3)) (by omega) (by omega))
      have HR3 := Lib.hid (show Rd w3.drew A3 (bc rev) from hr3)
      have B4 := Lib.hid (below_dr1 B3.out)
      clear hown3 hb3 hr3 B2 B3 HRR2 HPR2
      obtain ⟨RS, hRS⟩ : ∃ RS, bstr rev = RS := ⟨_, rfl⟩
      have HRS := Lib.hid hRS
      obtain ⟨F3, hF3⟩ := runF 25 9 (.slice A3 all.length c3)
      have hcv := convN HRL.out HR3.out c3
      rw [hRS, hF3] at hcv
      clear hRS
      have hYX := HYX.out
      go_upto_region 9 with fail
      go_region_held (fun x => F3 x = Result.ok (.string RS) x) (first | assumption | go_keep)
        (first | (go_at_call 12; refine HCALL.out.mono ?_; rintro e w4 ⟨A4, c4, rfl, hr4, hb4⟩; obtain ⟨F4, hF4⟩ := runF 25 9 (.slice A4 all.length c4); have hcv4 := convN HRL.out hr4 c4; have hcv5 := convN HRL.out (HR3.out.below hb4) c3; rw [HRS.out, hF4] at hcv4; rw [HRS.out, hF3] at hcv5; have B5 := Lib.hid (B4.out.trans (hb4.mono B4.out.size)); clear hr4 hb4))
      go_wp2
      go_ret
      exact ⟨ret_bool (by simp), B5.out⟩
end Go.Proofs.Ytbioeknobmcbiaa
