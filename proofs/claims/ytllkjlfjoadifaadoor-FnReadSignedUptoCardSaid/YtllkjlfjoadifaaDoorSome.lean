/-
  What is proved here: the walk of FnReadSome: it returns true. Conditions: at most 17592186043904 numbers; io.EOF and io.ErrUnexpectedEOF hold values as their initialisers lay them.
-/
import Derived.Test.YtllkjlfjoadifaaDoorLaws1
namespace Go.Proofs.YtllkjlfjoadifaaDoor
open Go.RowKit

theorem Rd.one {w : World} {v : Value} {e : TypeId} : Rd (w.alloc (.cells #[v] e)) (some ⟨w.heap.size, 0, none⟩) [v] :=
  .inr ⟨w.heap.size, 0, rfl, by simp, fun j u hu => by have := cell_one (w := w) (o := v) (e := e) j u hu; rwa [addr_add] at this⟩
theorem Parts.one {w : World} {A : Option Addr} {bs : List UInt8} {c : Nat} (hc : bs.length ≤ c) (hm : c ≤ maxLen) (hr : Rd w A (bc bs)) : Parts w [.slice A bs.length c] [bs] := by
  have := Parts.nil (w := w).snoc hc hm hr
  simpa using this
theorem RdN.take {w : World} {A : Option Addr} {zs : List Nat} (h : Rd w A (nc zs)) (n : Nat) : Rd w A (nc (zs.take n)) := by
  rcases h with h | ⟨b, off, hA, hb, hc⟩
  · have h0 : zs = [] := by simpa [nc] using h
    subst h0
    exact .inl (by simp [nc])
  · refine .inr ⟨b, off, hA, hb, fun j u hu => hc j u ?_⟩
    have e : nc (zs.take n) = (nc zs).take n := by simp [nc]
    rw [e, List.getElem?_take] at hu
    split at hu
    · exact hu
    · cases hu
theorem RdN.drop' {w : World} {A : Option Addr} {bs : List Nat} (h : Rd w A (nc bs)) (n : Nat) : Rd w (A.map (·.add n)) (nc (bs.drop n)) := by
  rcases h with h | ⟨b, off, rfl, hb, hc⟩
  · have h0 : bs = [] := by simpa [nc] using h
    subst h0
    exact .inl (by simp [nc])
  · refine .inr ⟨b, off + n, by simp [addr_add], hb, fun j u hu => ?_⟩
    have e : nc (bs.drop n) = (nc bs).drop n := by simp [nc]
    rw [e, List.getElem?_drop] at hu
    rw [Nat.add_assoc]
    exact hc _ u hu
theorem RdN.cutAt {w : World} {A : Option Addr} {bs : List Nat} (h : Rd w A (nc bs)) {c n : Nat} (hc : bs.length ≤ c) (hn : n ≤ bs.length) : Rd w (cutAt A c n) (nc (bs.drop n)) := by
  unfold Go.Proofs.YtllkjlfjoadifaaDoor.cutAt
  split
  · exact .inl (by rw [List.drop_of_length_le (by omega)]; rfl)
  · exact RdN.drop' h n

/-- ReadList at one piece: the bytes of numbers, a tail behind them. -/
theorem readOne (A : Option Addr) (c n : Nat) (bs : List UInt8) (zs : List Nat) (tail : List UInt8) (most fin : Int) (extra : Nat) (w0 w : World) (aE aU : Addr) (hE : Errs w0 aE aU) (hb : Below w0.heap.size w0 w) (hr : Rd w A (bc bs)) (hn : n = bs.length) (hc : bs.length ≤ c) (hm : c ≤ maxLen)
    (hz : ∀ x ∈ zs, x < 18446744073709551616) (hflat : bs = encL zs ++ tail) (hlz : zs.length ≤ 17592186043904) (hlt : tail.length ≤ 200000000000000) (hfin : Ending3 zs.length most tail fin extra) (hm0 : -9223372036854775808 ≤ most) (hm1 : most ≤ 9223372036854775807) :
    Calls Tryd.prog 14 #[.slice (some ⟨w.heap.size, 0, none⟩) 1 1, .int .i64 most] (w.alloc (.cells #[.slice A n c] 24)) fun e w' => ∃ v, e = .returned (.tuple #[v, .int .i64 (((encL zs).length + extra : Nat) : Int), .int .i64 fin]) ∧ w'.ownsRow w.heap.size 31 1 v zs.length (nc zs) ∧ Below w.heap.size w w' ∧ Below w0.heap.size w0 w' := by
  subst hn
  have h := readNums (some ⟨w.heap.size, 0, none⟩) 1 [.slice A bs.length c] [bs] zs tail most fin extra (w.alloc (.cells #[.slice A bs.length c] 24)) aE aU (hE.below (hb.alloc hb.size _)) Rd.one (Parts.one hc hm (hr.below (Below.alloc (Below.refl _ _) (Nat.le_refl _) _))) (by simp) (by simp) hz (by rw [List.flatten_cons, List.flatten_nil, List.append_nil]; exact hflat) hlz hlt hfin hm0 hm1
  refine h.mono ?_
  rintro e w' ⟨v, rfl, hown, hb'⟩
  have hB : Below w.heap.size w w' := (Below.alloc (Below.refl _ _) (Nat.le_refl _) _).trans (hb'.mono (by simp))
  exact ⟨v, rfl, own_mono hown (by simp), hB, hb.trans (hB.mono hb.size)⟩
theorem sameNumbers' (A A2 : Option Addr) (c c2 n : Nat) (zs : List Nat) (w : World) (hr : Rd w A (nc zs)) (hr2 : Rd w A2 (nc zs)) (hn : n = zs.length) (hl : zs.length ≤ 9223372036854775806) :
    Calls Tryd.prog 16 #[.slice A zs.length c, .slice A2 n c2] w fun e w' => e = .returned (.bool true) ∧ Below w.heap.size w w' := by
  subst hn
  exact sameNumbers A A2 c c2 zs w hr hr2 hl

set_option maxHeartbeats 4000000 in
set_option maxRecDepth 100000 in
theorem walkFnReadSome (A : Option Addr) (c : Nat) (zs : List Nat) (k : Int) (w : World) (aE aU : Addr) (hE : Errs w aE aU) (hr : Rd w A (nc zs)) (hz : ∀ x ∈ zs, x < 18446744073709551616) (hl : zs.length ≤ 17592186043904) (hc : zs.length ≤ c) (_hcm : c ≤ maxLen) (hk0 : -9223372036854775808 ≤ k) (hk1 : k ≤ 9223372036854775807) :
    Calls Tryd.prog 7 #[.slice A zs.length c, .int .i64 k] w fun e w' => e = .returned (.bool true) ∧ Below w.heap.size w w' := by
  by_cases hneg : k < 0
  · go_enter Tryd.func7, Tryd.ntmps7
    go_wp2
    go_ret
    exact ⟨rfl, Below.refl _ _⟩
  by_cases hbig : (zs.length : Int) < k
  · go_enter Tryd.func7, Tryd.ntmps7
    go_wp2
    go_ret
    exact ⟨rfl, Below.refl _ _⟩
  obtain ⟨k, rfl⟩ := Int.eq_ofNat_of_zero_le (show 0 ≤ k by omega)
  have hkl : k ≤ zs.length := by omega
  have hle := encL_length_le zs hz
  have hlT : (zs.take k).length = k := by simp; omega
  have hlD : (zs.drop k).length = zs.length - k := by simp
  have hsp : encL zs = encL (zs.take k) ++ encL (zs.drop k) := by rw [← encL_append, List.take_append_drop]
  have hzT : ∀ x ∈ zs.take k, x < 18446744073709551616 := fun x hx => hz x (List.mem_of_mem_take hx)
  have hzD : ∀ x ∈ zs.drop k, x < 18446744073709551616 := fun x hx => hz x (List.mem_of_mem_drop hx)
  have hleT := encL_length_le _ hzT
  have hleD := encL_length_le _ hzD
  have hsl : (encL zs).length = (encL (zs.take k)).length + (encL (zs.drop k)).length := by rw [hsp, List.length_append]
  have HSP := Lib.hid hsp
  have HE := Lib.hid hE
  have HR := Lib.hid hr
  have HZ := Lib.hid hz
  have HZT := Lib.hid hzT
  have HZD := Lib.hid hzD
  have HRT := Lib.hid (RdN.take hr k)
  have HRD := Lib.hid (RdN.cutAt hr hc hkl)
  generalize hT : zs.take k = T at *
  generalize hD : zs.drop k = D at *
  clear hE hr hz hzT hzD hsp hT hD
  subst hlT
  have hs1 := Nat.le_of_eq hsl
  have hs2 := Nat.le_of_eq hsl.symm
  have hd1 := Nat.le_of_eq hlD
  have hd2 := Nat.le_of_eq hlD.symm
  clear hsl hlD
  go_enter Tryd.func7, Tryd.ntmps7
  go_wp2_with fail
  refine (specList A c zs _ HR.out HZ.out (by omega)).mono ?_
  rintro e w1 ⟨v1, rfl, hown1, hb1⟩
  obtain ⟨A1, c1, rfl, hc1, hcm1, hr1⟩ := own_rd hown1
  have B1 := Lib.hid hb1
  have HR1 := Lib.hid hr1
  clear hown1 hr1 hb1
  have HC := Lib.hid (readOne A1 c1 _ (encL zs) T (encL D) T.length 0 0 w w1 aE aU HE.out B1.out HR1.out rfl hc1 hcm1 HZT.out HSP.out (by omega) (by omega) (.inr (.inr ⟨rfl, rfl, rfl⟩)) (by omega) (by omega))
  go_wp2_with fail
  refine HC.out.mono ?_
  rintro e w2 ⟨v2, rfl, hown2, hb2, hB2⟩
  obtain ⟨A2, c2, rfl, _, _, hr2⟩ := own_rd hown2
  have B2 := Lib.hid hB2
  have HR2 := Lib.hid hr2
  have HR1b := Lib.hid (HR1.out.below hb2)
  clear hown2 hr2 hb2 hB2 HC
  go_wp2_with fail
  refine (sameNumbers A2 A c2 c T w2 HR2.out (HRT.out.below B2.out) (by omega)).mono ?_
  rintro e w3 ⟨rfl, hb3⟩
  have B3 := Lib.hid (B2.out.trans (hb3.mono B2.out.size))
  have HR1c := Lib.hid (HR1b.out.below hb3)
  clear hb3 HR2
  go_wp2_with fail
  refine (specList A c T w3 (HRT.out.below B3.out) HZT.out (by omega)).mono ?_
  rintro e w4 ⟨v4, rfl, hown4, hb4⟩
  obtain ⟨A4, c4, rfl, _, _, _⟩ := own_rd hown4
  have B4 := Lib.hid (B3.out.trans (hb4.mono B3.out.size))
  have HR1d := Lib.hid (HR1c.out.below hb4)
  clear hb4 hown4
  have HZ1 : Hid (Rd w4 (cutAt A1 c1 (encL T).length) (bc (encL D))) := by
    have h := HR1d.out.cutAt (n := (encL T).length) hc1 (by omega)
    have e : (encL zs).drop (encL T).length = encL D := by rw [HSP.out, List.drop_left]
    rw [e] at h
    exact h
  clear HR1 HR1b HR1c HR1d
  have HC2 := Lib.hid fun (A' : Option Addr) (c' : Nat) (hA : Rd w4 A' (bc (encL D))) (hc' : c' = c1 - (encL T).length) => readOne A' c' ((encL zs).length - (encL T).length) (encL D) D [] ((zs.length : Int) + 1) 1 0 w w4 aE aU HE.out B4.out hA (by omega) (by omega) (by omega) HZD.out (by rw [List.append_nil]) (by omega) (by simp) (.inl ⟨by omega, rfl, rfl, rfl⟩) (by omega) (by omega)
  go_wp2_with fail
  · refine (HC2.out _ _ (by have h := HZ1.out; unfold cutAt at h; rw [if_pos (by assumption)] at h; exact h) (by omega)).mono ?_
    rintro e w5 ⟨v5, rfl, hown5, hb5, hB5⟩
    obtain ⟨A5, c5, rfl, _, _, hr5⟩ := own_rd hown5
    have B5 := Lib.hid hB5
    have HR5 := Lib.hid hr5
    clear hown5 hr5 hb5 hB5 HC2 HZ1 h
    have HS := Lib.hid fun (A' : Option Addr) (c' : Nat) (hA : Rd w A' (nc D)) => sameNumbers' A5 A' c5 c' (zs.length - T.length) D w5 HR5.out (hA.below B5.out) (by omega) (by omega)
    go_wp2_with fail
    · refine (HS.out _ _ (by have h := HRD.out; unfold cutAt at h; rw [if_pos (by assumption)] at h; exact h)).mono ?_
      rintro e w6 ⟨rfl, hb6⟩
      have B6 := Lib.hid (B5.out.trans (hb6.mono B5.out.size))
      clear hb6 h HS
      go_wp2
      go_ret
      exact ⟨ret_boolR (by simp), B6.out⟩
    · refine (HS.out _ _ (by have h := HRD.out; unfold cutAt at h; rw [if_neg (by assumption)] at h; exact h)).mono ?_
      rintro e w6 ⟨rfl, hb6⟩
      have B6 := Lib.hid (B5.out.trans (hb6.mono B5.out.size))
      clear hb6 h HS
      go_wp2
      go_ret
      exact ⟨ret_boolR (by simp), B6.out⟩
  · refine (HC2.out _ _ (by have h := HZ1.out; unfold cutAt at h; rw [if_neg (by assumption)] at h; exact h) (by omega)).mono ?_
    rintro e w5 ⟨v5, rfl, hown5, hb5, hB5⟩
    obtain ⟨A5, c5, rfl, _, _, hr5⟩ := own_rd hown5
    have B5 := Lib.hid hB5
    have HR5 := Lib.hid hr5
    clear hown5 hr5 hb5 hB5 HC2 HZ1 h
    have HS := Lib.hid fun (A' : Option Addr) (c' : Nat) (hA : Rd w A' (nc D)) => sameNumbers' A5 A' c5 c' (zs.length - T.length) D w5 HR5.out (hA.below B5.out) (by omega) (by omega)
    go_wp2_with fail
    · refine (HS.out _ _ (by have h := HRD.out; unfold cutAt at h; rw [if_pos (by assumption)] at h; exact h)).mono ?_
      rintro e w6 ⟨rfl, hb6⟩
      have B6 := Lib.hid (B5.out.trans (hb6.mono B5.out.size))
      clear hb6 h HS
      go_wp2
      go_ret
      exact ⟨ret_boolR (by simp), B6.out⟩
    · refine (HS.out _ _ (by have h := HRD.out; unfold cutAt at h; rw [if_neg (by assumption)] at h; exact h)).mono ?_
      rintro e w6 ⟨rfl, hb6⟩
      have B6 := Lib.hid (B5.out.trans (hb6.mono B5.out.size))
      clear hb6 h HS
      go_wp2
      go_ret
      exact ⟨ret_boolR (by simp), B6.out⟩
end Go.Proofs.YtllkjlfjoadifaaDoor
