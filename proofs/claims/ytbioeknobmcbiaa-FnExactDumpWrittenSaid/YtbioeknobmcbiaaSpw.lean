/-
  What is proved here: spec.DumpWritten returns the text of a dump and the number of its bytes. Conditions: at most 100000000 bytes and parts.
-/
import Derived.Test.YtbioeknobmcbiaaLine
import Derived.Test.YtbioeknobmcbiaaAll
import Derived.Lib.AppendStr
namespace Go.Proofs.Ytbioeknobmcbiaa
open Go.RowKit

theorem strCells_bstr (l : List UInt8) : Lib.strCells (bstr l) = bc l := by
  simp [Lib.strCells, bc, Lib.byteCells]
theorem dump_take {all : List UInt8} {p : Nat} (hp : p < all.length) (hm : p % 16 = 0) : dumpFrom 0 (all.take (p + 16)) = dumpFrom 0 (all.take p) ++ lineT p ((all.drop p).take 16) := by
  have hl : (all.take p).length = p := by rw [List.length_take]; omega
  have e : all.take (p + 16) = all.take p ++ (all.drop p).take 16 := by rw [List.take_add]
  rw [e, dump_append 0 _ _ (by rw [hl]; exact hm), hl, Nat.zero_add]
  congr 1
  rw [dump_step _ _ (by rw [List.length_take, List.length_drop]; omega), List.take_of_length_le (List.length_take_le _ _), List.drop_of_length_le (List.length_take_le _ _), dump_nil, List.append_nil]
theorem rd_part {w : World} {b off : Nat} {bs : List UInt8} (h : Rd w (some ⟨b, off, none⟩) (bc bs)) (p n : Nat) : Rd w (some ⟨b, off + p, none⟩) (bc ((bs.drop p).take n)) := by
  rcases h with h | ⟨b', off', he, hb, hc⟩
  · have h0 : bs = [] := by simpa [bc, Lib.byteCells] using h
    subst h0
    exact .inl (by simp [bc, Lib.byteCells])
  · injection he with he
    injection he with he1 he2
    subst he1; subst he2
    refine .inr ⟨b, off + p, rfl, hb, fun j u hu => ?_⟩
    have e : bc ((bs.drop p).take n) = ((bc bs).drop p).take n := by simp [bc, Lib.byteCells]
    rw [e, List.getElem?_take] at hu
    split at hu
    · rw [List.getElem?_drop] at hu
      rw [Nat.add_assoc]
      exact hc (p + j) u hu
    · cases hu
theorem lineN {w : World} {z : Int} {a n : Nat} {A : Option Addr} {c : Nat} {ds : List UInt8} {L : ByteArray} (hz : z = (a : Int)) (ha : a ≤ 1000000000000) (hn : ds.length = n) (hL : bstr (lineT a ds) = L) (hr : Rd w A (bc ds)) (hl : n ≤ 16) :
    Calls Try.prog 24 #[.int .i64 z, .slice A n c] w fun e w' => e = .returned (.string L) ∧ Below w.heap.size w w' := by
  subst hz; subst hn; subst hL
  exact line_ w a ha A c ds hr hl

set_option maxHeartbeats 2000000 in
set_option maxRecDepth 100000 in
theorem specWritten (w : World) (A : Option Addr) (c : Nat) (ps : List Value) (bss : List (List UInt8)) (all : List UInt8) (ha : bss.flatten = all) (hr : Rd w A ps) (hp : Parts w ps bss) (hl : all.length ≤ 100000000) (hn : bss.length ≤ 100000000) :
    Calls Try.prog 15 #[.slice A bss.length c] w fun e w' => e = .returned (.tuple #[.string (bstr (dumpFrom 0 all)), .int .i64 (all.length : Int)]) ∧ Below w.heap.size w w' := by
  obtain ⟨i0, hi, hz0, hz1, hz2⟩ := info_parts info_u8
  have HR := Lib.hid hr
  have HP := Lib.hid hp
  have HA := Lib.hid ha
  clear hr hp ha
  go_enter Try.func15, Try.ntmps15
  go_wp2_with fail
  refine (all_ w A c ps bss all HA.out HR.out HP.out (by omega) (by omega)).mono ?_
  rintro e w1 ⟨v1, rfl, hown1, hb1⟩
  obtain ⟨A1, c1, rfl, hc1, _, hr1⟩ := own_rd hown1
  have B1 := Lib.hid hb1
  have HR1 := Lib.hid hr1
  have HST := Lib.hid (own_lit0 w1 5)
  clear hown1 hb1 hr1
  go_wp2
  go_loopw [5, 6] (fun o i wr => ∃ p : Nat, p % 16 = 0 ∧ p ≤ all.length + 15 ∧ i = .int .i64 p ∧ wr.ownsRow w1.heap.size 5 1 o (dumpFrom 0 (all.take p)).length (bc (dumpFrom 0 (all.take p))) ∧ Below w1.heap.size w1 wr) (fun _ i _ => all.length + 16 - (intOf i).toNat)
  case atStart => exact ⟨0, rfl, by omega, rfl, by rw [List.take_zero, dump_nil]; exact HST.out, (Below.refl _ _).alloc (Nat.le_refl _) _⟩
  case round =>
    clear HST
    obtain ⟨p, hpm, hpl, rfl, hown, hbw⟩ := hrel
    obtain ⟨o, ho⟩ : ∃ o, dumpFrom 0 (all.take p) = o := ⟨_, rfl⟩
    have hol := dump_len_le 0 (all.take p)
    rw [ho, List.length_take] at hol
    rw [ho] at hown
    have hol2 : o.length ≤ 8000000000 := by omega
    have HO := Lib.hid hown
    have HB := Lib.hid hbw
    have HOE := Lib.hid ho
    have HPM := Lib.hid hpm
    obtain ⟨A2, c2, rfl, _, _, hr2⟩ := own_rd hown
    clear hown hbw ho hol
    by_cases hlt : p < all.length
    · clear hr2 hpm
      obtain ⟨d, hd⟩ : ∃ d, all[p]? = some d := ⟨_, List.getElem?_eq_getElem hlt⟩
      obtain ⟨bp, op, rfl, hbp, _⟩ := (HR1.out.below HB.out).at_ (bc_at hd)
      clear hd
      go_upto_if 22 with fail
      go_cut [7] (fun t wx => ∃ m : Nat, 1 ≤ m ∧ m ≤ 16 ∧ p + m ≤ all.length ∧ ((all.drop p).take 16).length = m ∧ t = .int .i64 ((p + m : Nat) : Int) ∧ wx = wr)
      case first =>
        by_cases hfull : p + 16 ≤ all.length
        · have h1 : ¬ (all.length : Int) < (p : Int) + 16 := by omega
          go_wp2
          go_meet
          exact ⟨16, by omega, by omega, hfull, by rw [List.length_take, List.length_drop]; omega, by go_num, rfl⟩
        · have h1 : (all.length : Int) < (p : Int) + 16 := by omega
          go_wp2
          go_meet
          exact ⟨all.length - p, by omega, by omega, by omega, by rw [List.length_take, List.length_drop]; omega, by rw [show p + (all.length - p) = all.length by omega], rfl⟩
      case rest =>
        obtain ⟨m, hm1, hm16, hpm, hml, rfl, rfl⟩ := hcut
        obtain ⟨t, ht⟩ : ∃ t, p + m = t := ⟨_, rfl⟩
        rw [ht]
        have HML := Lib.hid hml
        have hp0 : (0 : Int) ≤ (p : Int) := by omega
        have hpt : (p : Int) ≤ (t : Int) := by omega
        have htc : (t : Int) ≤ (c1 : Int) := by omega
        have hcp : ¬ c1 = p := by omega
        have htp : t - p = m := by omega
        obtain ⟨L, hL⟩ : ∃ L, bstr (lineT p ((all.drop p).take 16)) = L := ⟨_, rfl⟩
        have hLs : L.size = 63 + m := by rw [← hL, bstr_size, lineT_len _ _ (List.length_take_le _ _), hml]
        have HL := Lib.hid hL
        have HLS := Lib.hid hLs
        have hLb : L.size ≤ 79 := by omega
        have HRP := Lib.hid (rd_part (HR1.out.below HB.out) p 16)
        clear hml hL hLs ht
        go_wp2_with fail
        refine (lineN (a := p) (z := _) rfl (by omega) HML.out HL.out HRP.out hm16).mono ?_
        rintro e w3 ⟨rfl, hb3⟩
        have B3 := Lib.hid (HB.out.trans (hb3.mono HB.out.size))
        have HO3 := Lib.hid (own_below HO.out hb3)
        clear hb3 HRP htp hcp
        go_wp2_with (at_builtin; refine Lib.wpList_append_own_string _ rfl _ _ 25 9 rfl w1.heap.size 5 i0 Try.underlying25 Try.underlying9 hi hz0 hz1 hz2 _ o.length (bc o) rfl HO3.out L rfl (by unfold maxLen; omega) (by omega) B3.out.size ?_; intro v4 w4 hown4 hg4 _; have B4 := Lib.hid (B3.out.grown hg4 B3.out.size (fun j hj => (own_lt HO3.out j hj).1)); have HO4 := Lib.hid hown4; clear hown4 hg4)
        go_roundw
        case rel =>
          refine ⟨p + 16, by have := HPM.out; omega, by omega, by go_num, ?_, B4.out⟩
          have h := HO4.out
          rw [← HL.out, strCells_bstr, bstr_size, ← bc_append, ← List.length_append, ← HOE.out, ← dump_take hlt HPM.out] at h
          exact h
        case measure => simp [intOf]; omega
    · have hfin : o = dumpFrom 0 all := by rw [← HOE.out, List.take_of_length_le (by omega)]
      have hcv := conv_string hr2 c2
      have HF := Lib.hid hfin
      clear hfin hr2 hpm
      go_wp2
      go_ret2
      rw [← HF.out]
      exact ⟨rfl, B1.out.trans (HB.out.mono B1.out.size)⟩
end Go.Proofs.Ytbioeknobmcbiaa
