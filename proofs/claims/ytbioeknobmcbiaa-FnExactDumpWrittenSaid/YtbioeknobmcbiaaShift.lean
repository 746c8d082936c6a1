/-
  What is proved here: the walk of FnDumpShift: it returns true. Conditions: at most 1048576 bytes each.
-/
import Derived.Test.YtbioeknobmcbiaaAddr
import Derived.Deep.RegionHeld
namespace Go.Proofs.Ytbioeknobmcbiaa
open Go.RowKit

theorem bstr_ext (L : List UInt8) (i j : Nat) : (bstr L).extract i j = bstr ((L.take j).drop i) := by
  apply ByteArray.ext
  simp [List.drop_take]
/-- a line is its address and what hangs on its bytes alone -/
def restT (ds : List UInt8) : List UInt8 := [32, 32] ++ cols 0 ds ++ blanks ds.length (16 - ds.length) ++ [124] ++ ds.map shownC ++ [124, 10]
theorem lineT_split (a : Nat) (ds : List UInt8) : lineT a ds = digits 8 a ++ restT ds := by
  simp only [lineT, headT, restT, List.append_assoc]
/-- what a round of the law finds, in plain words -/
theorem shift_round (a p : Nat) (rem : List UInt8) (h0 : rem.length ≠ 0) {T R : ByteArray} (hT : bstr (dumpFrom a rem) = T) (hR : bstr (dumpFrom p rem) = R) :
    ∃ nn : Nat, min (R.size : Int) 79 = (nn : Int) ∧ 8 ≤ nn ∧ nn ≤ T.size ∧ nn ≤ R.size ∧ T.extract 0 8 = bstr (digits 8 a) ∧ R.extract 0 8 = bstr (digits 8 p) ∧ R.extract 8 nn = T.extract 8 nn ∧
      T.extract nn T.size = bstr (dumpFrom (a + 16) (rem.drop 16)) ∧ R.extract nn R.size = bstr (dumpFrom (p + 16) (rem.drop 16)) := by
  subst hT; subst hR
  have hL : (rem.take 16).length ≤ 16 := List.length_take_le _ _
  have e1 := lineT_len a (rem.take 16) hL
  have e2 := lineT_len p (rem.take 16) hL
  have hmin : min (((dumpFrom p rem).length : Nat) : Int) 79 = ((63 + (rem.take 16).length : Nat) : Int) := by
    rw [dump_step p rem h0, List.length_append, e2]
    by_cases h16 : 16 ≤ rem.length
    · rw [List.length_take, Nat.min_eq_left h16]; omega
    · rw [List.drop_of_length_le (by omega), dump_nil, List.length_nil, List.length_take]; omega
  have hd8 : ∀ (q : Nat), (digits 8 q).length = 8 := fun q => digits_length 8 q
  have hsp : ∀ (q : Nat), dumpFrom q rem = digits 8 q ++ (restT (rem.take 16) ++ dumpFrom (q + 16) (rem.drop 16)) := fun q => by
    rw [dump_step q rem h0, lineT_split, List.append_assoc]
  have hrl : (restT (rem.take 16)).length = 55 + (rem.take 16).length := by
    rw [lineT_split, List.length_append, hd8] at e1; omega
  have hmid : ∀ (q : Nat), ((dumpFrom q rem).take (63 + (rem.take 16).length)).drop 8 = restT (rem.take 16) := fun q => by
    rw [hsp q, ← List.append_assoc, List.take_append_of_le_length (by rw [List.length_append, hd8, hrl]; omega), List.take_of_length_le (by rw [List.length_append, hd8, hrl]; omega)]
    conv => lhs; arg 1; rw [← hd8 q]
    rw [List.drop_left]
  have hend : ∀ (q : Nat), (dumpFrom q rem).drop (63 + (rem.take 16).length) = dumpFrom (q + 16) (rem.drop 16) := fun q => by
    rw [hsp q, ← List.append_assoc]
    have : 63 + (rem.take 16).length = (digits 8 q ++ restT (rem.take 16)).length := by rw [List.length_append, hd8, hrl]; omega
    rw [this, List.drop_left]
  have hbeg : ∀ (q : Nat), ((dumpFrom q rem).take 8).drop 0 = digits 8 q := fun q => by
    rw [List.drop_zero, hsp q]
    conv => lhs; arg 1; rw [← hd8 q]
    rw [List.take_left]
  have hle : ∀ (q : Nat), 63 + (rem.take 16).length ≤ (dumpFrom q rem).length := fun q => by
    rw [hsp q, List.length_append, List.length_append, hd8, hrl]; omega
  refine ⟨63 + (rem.take 16).length, by rw [bstr_size]; exact hmin, by omega, by rw [bstr_size]; exact hle a, by rw [bstr_size]; exact hle p, ?_, ?_, ?_, ?_, ?_⟩
  · rw [bstr_ext, hbeg]
  · rw [bstr_ext, hbeg]
  · rw [bstr_ext, bstr_ext, hmid, hmid]
  · rw [bstr_ext, bstr_size, List.take_length, hend]
  · rw [bstr_ext, bstr_size, List.take_length, hend]
theorem shift_head (x y : List UInt8) (h : x.length % 16 = 0) {T F R : ByteArray} (hT : bstr (dumpFrom 0 (x ++ y)) = T) (hF : bstr (dumpFrom 0 x) = F) (hR : bstr (dumpFrom 0 y) = R) :
    (T.size : Int) = (F.size : Int) + (R.size : Int) ∧ T.extract 0 F.size = F ∧ F.size = 79 * (x.length / 16) ∧ T.extract F.size T.size = bstr (dumpFrom x.length y) := by
  subst hT; subst hF; subst hR
  have e := dump_append 0 x y h
  rw [Nat.zero_add] at e
  have hl : (dumpFrom x.length y).length = (dumpFrom 0 y).length := by rw [dump_len, dump_len]
  refine ⟨?_, ?_, ?_, ?_⟩
  · rw [bstr_size, bstr_size, bstr_size, e, List.length_append, hl]; omega
  · rw [bstr_ext, bstr_size, e, List.take_left, List.drop_zero]
  · rw [bstr_size, dump_len, if_pos h]; rfl
  · rw [bstr_ext, bstr_size, bstr_size, List.take_length, e, List.drop_left]
theorem below_dr1 {B : Nat} {a w : World} (h : Below B a w) : Below B a w.drew := ⟨h.os, h.tape, h.output, h.size, h.block⟩
theorem addressL {w : World} {z : Int} {n : Nat} {D : ByteArray} (hz : z = (n : Int)) (hn : n ≤ 1000000000000) (hD : bstr (digits 8 n) = D) : Calls Try.prog 20 #[.int .i64 z] w fun e w' => e = .returned (.string D) ∧ Below w.heap.size w w' := by
  subst hz; subst hD
  exact address w n hn
theorem dumpN {w : World} {A : Option Addr} {c n : Nat} {data : List UInt8} {X : ByteArray} (hn : data.length = n) (hX : bstr (dumpFrom 0 data) = X) (hr : Rd w A (bc data)) (hcap : n ≤ c) (hl : n ≤ 100000000) :
    Calls Try.prog 13 #[.slice A n c] w fun e w' => e = .returned (.string X) ∧ Below w.heap.size w w' := by
  subst hn; subst hX
  exact dump_ w A c data hr hcap hl
theorem Rd.take {w : World} {A : Option Addr} {bs : List UInt8} (h : Rd w A (bc bs)) (n : Nat) : Rd w A (bc (bs.take n)) := by
  rcases h with h | ⟨b, off, hA, hb, hc⟩
  · have h0 : bs = [] := by simpa [bc, Lib.byteCells] using h
    subst h0
    exact .inl (by simp [bc, Lib.byteCells])
  · refine .inr ⟨b, off, hA, hb, fun j u hu => hc j u ?_⟩
    have e : bc (bs.take n) = (bc bs).take n := by simp [bc, Lib.byteCells]
    rw [e, List.getElem?_take] at hu
    split at hu
    · exact hu
    · cases hu

set_option maxHeartbeats 2000000 in
set_option maxRecDepth 100000 in
theorem walkFnDumpShift (A : Option Addr) (c : Nat) (da : List UInt8) (A' : Option Addr) (c' : Nat) (db : List UInt8) (w : World) (hr : Rd w A (bc da)) (hcap : da.length ≤ c) (hl : da.length ≤ 1048576) (hr' : Rd w A' (bc db)) (hcap' : db.length ≤ c') (hl' : db.length ≤ 1048576) :
    Calls Try.prog 10 #[.slice A da.length c, .slice A' db.length c'] w fun e w' => e = .returned (.bool true) ∧ Below w.heap.size w w' := by
  obtain ⟨la, hla⟩ : ∃ la : Nat, da.length / 16 * 16 = la := ⟨_, rfl⟩
  have hla' : (da.length : Int) / 16 * 16 = (la : Int) := by omega
  have hlal : la ≤ da.length := by omega
  obtain ⟨x, hx⟩ : ∃ x, da.take la = x := ⟨_, rfl⟩
  have hxl : x.length = la := by rw [← hx, List.length_take]; omega
  have hxm : x.length % 16 = 0 := by rw [hxl]; omega
  obtain ⟨T, hT⟩ : ∃ T, bstr (dumpFrom 0 (x ++ db)) = T := ⟨_, rfl⟩
  obtain ⟨F, hF⟩ : ∃ F, bstr (dumpFrom 0 x) = F := ⟨_, rfl⟩
  obtain ⟨R, hR⟩ : ∃ R, bstr (dumpFrom 0 db) = R := ⟨_, rfl⟩
  obtain ⟨h1, h2, h3, h4⟩ := shift_head x db hxm hT hF hR
  rw [hxl] at h3 h4
  have hrx : Rd w A (bc x) := by rw [← hx]; exact hr.take la
  have hFs : F.size ≤ 100000000 := by omega
  have hRs : R.size ≤ 100000000 := by rw [← hR, bstr_size]; have := dump_len_le 0 db; omega
  have HR := Lib.hid hrx
  have HR' := Lib.hid hr'
  have HXL := Lib.hid hxl
  have HT := Lib.hid hT
  have HF := Lib.hid hF
  have HRR := Lib.hid hR
  have H1 := Lib.hid h1
  have H2 := Lib.hid h2
  have H3 := Lib.hid h3
  have H4 := Lib.hid h4
  clear hr hr' hx hxl hxm hT hF hR h1 h2 h3 h4 hrx hla
  go_enter Try.func10, Try.ntmps10
  have tok : True := trivial
  go_wp2_with (first
    | (at_builtin; have _t := tok; refine wpList_app _ rfl _ _ rfl w.heap.size _ 0 [] rfl (World.ownsRow_nil _ _ _ _) A la c (bc x) rfl HR.out ((bc_length x).trans HXL.out) (bc_one x) (by omega) (Nat.le_refl _) ?_; intro v1 w1 hown1 hg1 hm1; have B1 := Lib.hid ((Below.refl w.heap.size w).grown hg1 (Nat.le_refl _) (fun j hj => by cases hj)); have HO1 := Lib.hid hown1; clear tok hown1 hg1 hm1)
    | (at_builtin; refine wpList_app _ rfl _ _ rfl w.heap.size _ (0 + la) ([] ++ bc x) rfl HO1.out A' db.length c' (bc db) rfl (HR'.out.below B1.out) (bc_length db) (bc_one db) (by omega) B1.out.size ?_; intro v2 w2 hown2 hg2 hm2; have B2 := Lib.hid (B1.out.grown hg2 B1.out.size (fun j hj => (own_lt HO1.out j hj).1)); have HO2 := Lib.hid (show w2.ownsRow w.heap.size 5 1 v2 (la + db.length) (bc (x ++ db)) by rw [bc_append]; simpa using hown2); obtain ⟨A2, c2, hv2, hc2, _, hr2⟩ := own_rd HO2.out; subst hv2; have HR2 := Lib.hid hr2; clear hown2 hg2 hm2 hr2 HO1 HO2))
  refine (dumpN (show (x ++ db).length = la + db.length by rw [List.length_append, HXL.out]) HT.out HR2.out hc2 (by omega)).mono ?_
  rintro e w3 ⟨rfl, hb3⟩
  have B3 := Lib.hid (B2.out.trans (hb3.mono B2.out.size))
  clear hb3 HR2 B1 B2
  go_wp2_with fail
  refine (dumpN HXL.out HF.out (HR.out.below B3.out) (by omega) (by omega)).mono ?_
  rintro e w4 ⟨rfl, hb4⟩
  have B4 := Lib.hid (B3.out.trans (hb4.mono B3.out.size))
  clear hb4 B3
  go_wp2_with fail
  refine (dumpN rfl HRR.out (HR'.out.below B4.out) hcap' (by omega)).mono ?_
  rintro e w5 ⟨rfl, hb5⟩
  have B5 := Lib.hid (B4.out.trans (hb5.mono B4.out.size))
  clear hb5 B4
  have hTs := H1.out
  have hE1 := H2.out
  have hE2 := H4.out
  have hF3 : (F.size : Int) = 79 * ((la : Int) / 16) := by have := H3.out; omega
  have hne1 : ((T.size : Int) != (F.size : Int) + (R.size : Int)) = false := by rw [hTs]; simp
  have hne2 : ((F.size : Int) != 79 * ((la : Int) / 16)) = false := by rw [← hF3]; simp
  have hFT : F.size ≤ T.size := by omega
  have hFTi : (F.size : Int) ≤ (T.size : Int) := by omega
  clear hF3 hTs
  go_wp2
  clear hE1 hE2 hne1 hne2 hFT hFTi H1 H2 H3 H4
  go_loopg [5, 7, 8] db.length (fun k t r i wr => ∃ (p : Nat) (rem : List UInt8), k = rem.length ∧ t = .string (bstr (dumpFrom (la + p) rem)) ∧ r = .string (bstr (dumpFrom p rem)) ∧ i = .int .i64 p ∧ (rem.length = 0 ∨ p + rem.length ≤ db.length) ∧ p ≤ db.length + 16 ∧ Below w.heap.size w wr)
  case atStart => exact ⟨0, db, rfl, rfl, by rw [HRR.out], rfl, .inr (by omega), by omega, B5.out⟩
  case round =>
    clear B5
    obtain ⟨p, rem, hk, rfl, rfl, rfl, hpr, hp, hbw⟩ := hrel
    have HB := Lib.hid hbw
    have HK := Lib.hid hk
    clear hbw hk
    by_cases h0 : rem.length = 0
    · obtain rfl : rem = [] := List.eq_nil_of_length_eq_zero h0
      have HX1 := Lib.hid (show bstr (dumpFrom (la + p) []) = ⟨#[]⟩ by rw [dump_nil])
      have HX2 := Lib.hid (show bstr (dumpFrom p []) = ⟨#[]⟩ by rw [dump_nil])
      rw [HX1.out, HX2.out]
      clear hpr
      go_wp2
      go_ret
      exact ⟨rfl, HB.out⟩
    · have hpl : p + rem.length ≤ db.length := by omega
      obtain ⟨T1, hT1⟩ : ∃ T, bstr (dumpFrom (la + p) rem) = T := ⟨_, rfl⟩
      obtain ⟨R1, hR1⟩ : ∃ R, bstr (dumpFrom p rem) = R := ⟨_, rfl⟩
      obtain ⟨nn, g1, g2, g3, g4, g5, g6, g7, g8, g9⟩ := shift_round (la + p) p rem h0 hT1 hR1
      have hRpos : 0 < R1.size := by omega
      have hT1s : T1.size ≤ 100000000 := by rw [← hT1, bstr_size]; have := dump_len_le (la + p) rem; omega
      have hR1s : R1.size ≤ 100000000 := by rw [← hR1, bstr_size]; have := dump_len_le p rem; omega
      obtain ⟨D1, hD1⟩ : ∃ D, bstr (digits 8 (la + p)) = D := ⟨_, rfl⟩
      obtain ⟨D2, hD2⟩ : ∃ D, bstr (digits 8 p) = D := ⟨_, rfl⟩
      rw [hD1] at g5
      rw [hD2] at g6
      rw [hT1, hR1]
      have G1 := Lib.hid hD1
      have G2 := Lib.hid hD2
      have q1 : decide (T1.size < nn) = false := decide_eq_false (by omega)
      have q1i : decide ((T1.size : Int) < (nn : Int)) = false := decide_eq_false (by omega)
      have q2 : decide (nn < 8) = false := decide_eq_false (by omega)
      have q2i : decide ((nn : Int) < 8) = false := decide_eq_false (by omega)
      have q3 : (8 : Int) ≤ (T1.size : Int) := by omega
      have q4 : (8 : Int) ≤ (R1.size : Int) := by omega
      have q5 : (nn : Int) ≤ (T1.size : Int) := by omega
      have q6 : (nn : Int) ≤ (R1.size : Int) := by omega
      have q7 : (8 : Int) ≤ (nn : Int) := by omega
      have q8 : (0 : Int) ≤ (nn : Int) := by omega
      have q9 : IntKind.i64.wrap ((la : Int) + (p : Int)) = (la : Int) + (p : Int) := IntWalk.i64_in _ (by omega)
      clear hT1 hR1 hD1 hD2 hpr
      have tok : True := trivial
      go_wp2
      go_region_held (fun _ => True) (trivial)
        (first
          | (go_at_call 20; have _t := tok; refine (addressL (D := D1) (n := la + p) (by omega) (by omega) G1.out).mono ?_; rintro e w6 ⟨rfl, hb6⟩; have B6 := Lib.hid (HB.out.trans (show Below w.heap.size wr w6 from (below_dr1 (Below.refl _ _)).trans (hb6.mono HB.out.size))); clear tok hb6)
          | (go_at_call 20; refine (addressL (D := D2) (n := p) (by omega) (by omega) G2.out).mono ?_; rintro e w7 ⟨rfl, hb7⟩; have B7 := Lib.hid (B6.out.trans (hb7.mono B6.out.size)); clear hb7))
      go_wp2
      go_roundg (rem.drop 16).length
      case measure => rw [HK.out, List.length_drop]; omega
      case rel => exact ⟨p + 16, rem.drop 16, rfl, rfl, rfl, by go_num, by rw [List.length_drop]; omega, by omega, B7.out⟩
end Go.Proofs.Ytbioeknobmcbiaa
