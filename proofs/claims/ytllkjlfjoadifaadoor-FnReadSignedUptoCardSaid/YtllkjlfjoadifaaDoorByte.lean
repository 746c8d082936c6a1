/-
  What is proved here: giver.ReadByte, at its end and ahead of it. Conditions: io.EOF holds a value.
-/
import Derived.Test.YtllkjlfjoadifaaDoorGiver
import Derived.StillTailTactics
namespace Go.Proofs.YtllkjlfjoadifaaDoor
open Go.RowKit

set_option maxHeartbeats 2000000 in
set_option maxRecDepth 100000 in
theorem readByteEnd (w0 w : World) (gv taken n : Nat) (vE : Value) (hE : w0.cell? ⟨0, 0, none⟩ = some vE) (hE0 : 0 < w0.heap.size) (h : Gv w0 w gv taken n []) :
    Calls Tryd.prog 37 #[.pointer (some ⟨gv, 0, none⟩)] w fun e w' => e = .returned (.tuple #[.int .u8 0, vE]) ∧ (∃ m, Gv w0 w' gv taken m []) ∧ Fr w w' := by
  have HE := Lib.hid hE
  clear hE
  go_enter Tryd.func37, Tryd.ntmps37
  go_wp2
  go_loopg [] n (fun k wr => Gv w0 wr gv taken k [] ∧ Fr w wr)
  case atStart => exact ⟨h, Fr.refl _⟩
  case round =>
    clear h
    obtain ⟨hgv, hfr⟩ := hrel
    have HF := Lib.hid hfr
    have HG := Lib.hid hgv
    clear hfr hgv
    cases gk with
    | zero =>
      obtain ⟨A, c, ps, bss, h1, h2, h3, h4, h5, h6⟩ := HG.out
      have c0 := blk_cell h2 0
      have hcE : wr.cell? ⟨0, 0, none⟩ = some vE := (h6.cell (p := ⟨0, 0, none⟩) hE0).trans HE.out
      simp only [List.getElem?_toArray, List.getElem?_cons_zero] at c0
      clear h2 h3 h4 h5 h6
      go_wp2
      go_quiet (fail)
      go_wp2
      go_ret2
      exact ⟨rfl, ⟨0, HG.out.drewN _⟩, HF.out.drewN _⟩
    | succ k =>
      obtain ⟨gp, off, c, cur, A1, c1, b0, ps, bss, h1, h2, hne, hv, hp, hc, hcm, hsz, ht, hc0, hb1, hb2, hrd, hpl, hparts, hrest, hb⟩ := HG.out.some_
      have hb0 : b0 = [] ∧ bss.flatten = [] := by
        have := congrArg List.length hrest
        rw [List.length_append, List.length_nil] at this
        exact ⟨List.eq_nil_of_length_eq_zero (by omega), List.eq_nil_of_length_eq_zero (by omega)⟩
      obtain ⟨rfl, hfl⟩ := hb0
      have c0 := blk_cell hv 0
      simp only [List.getElem?_toArray, List.getElem?_cons_zero] at c0
      have f0 := blk_free hv 0
      have cp := (blk_cell hp off).trans hc0
      rw [List.length_nil] at cp
      have hkc : (1 : Int) ≤ (k : Int) + 1 := by omega
      by_cases hc1 : c = 1
      · subst hc1
        obtain rfl : k = 0 := by omega
        have hpop := Gv.pop h1 h2 hne hv hp hc hcm hsz ht hpl hparts hfl hb (some ⟨gp, off, none⟩) (.inl (by omega))
        have HP := Lib.hid hpop
        clear hpop hv hp hc0 hparts hrest hb hrd ht hfl
        go_wp2
        go_roundg 0
        case measure => omega
        case rel => exact ⟨HP.out.1, HF.out.trans HP.out.2⟩
      · have hpop := Gv.pop h1 h2 hne hv hp hc hcm hsz ht hpl hparts hfl hb (some ⟨gp, off + 1, none⟩) (.inr rfl)
        have HP := Lib.hid hpop
        clear hpop hv hp hc0 hparts hrest hb hrd ht hfl
        go_wp2
        go_roundg k
        case measure => omega
        case rel => exact ⟨HP.out.1, HF.out.trans HP.out.2⟩

/-- behind 'g.pieces[0] = g.pieces[0][1:]' and 'g.taken++' -/
theorem Gv.next {w0 w : World} {gv taken n gp off c : Nat} {cur : Array Value} {p : Value} {ps : List Value} {bss : List (List UInt8)} {b0 : List UInt8} {rest : List UInt8} (h1 : w0.heap.size ≤ gv) (hgp : w0.heap.size ≤ gp) (hne : gv ≠ gp)
    (h2 : w.heap[gv]? = some (.cells #[.slice (some ⟨gp, off, none⟩) (n + 1) c, .int .i64 (taken : Int)] 52 (0, 0))) (hcur : w.heap[gp]? = some (.cells cur 24 (0, 0))) (h4 : n + 1 ≤ c) (h5 : c ≤ maxLen) (hsz : off + c ≤ cur.size)
    (ht : (cur.toList.drop off).take (n + 1) = p :: ps) (hl : ps.length = n) (hp : Parts w0 ps bss) (hf : b0 ++ bss.flatten = rest) (hb : Below w0.heap.size w0 w) (A1 : Option Addr) (c1 : Nat) (hc1 : b0.length ≤ c1) (hm1 : c1 ≤ maxLen) (hr1 : Rd w0 A1 (bc b0)) :
    Gv w0 ((w.setCell ⟨gp, off, none⟩ (.slice A1 b0.length c1)).setCell ⟨gv, 1, none⟩ (.int .i64 ((taken : Int) + 1))) gv (taken + 1) (n + 1) rest ∧ Fr w ((w.setCell ⟨gp, off, none⟩ (.slice A1 b0.length c1)).setCell ⟨gv, 1, none⟩ (.int .i64 ((taken : Int) + 1))) := by
  have hv' : (w.setCell ⟨gp, off, none⟩ (.slice A1 b0.length c1)).heap[gv]? = some (.cells #[.slice (some ⟨gp, off, none⟩) (n + 1) c, .int .i64 (taken : Int)] 52 (0, 0)) := (blk_far hne _ _).trans h2
  refine ⟨⟨some ⟨gp, off, none⟩, c, .slice A1 b0.length c1 :: ps, b0 :: bss, h1, ?_, ⟨by simp [hl], h4, h5, .inr ⟨gp, off, cur.setIfInBounds off (.slice A1 b0.length c1), rfl, hgp, ?_, by simpa using hsz, ?_⟩⟩, ?_, hf, ?_⟩, (Fr.set hcur (.inl rfl) _ _).trans (Fr.set hv' (.inr rfl) _ _)⟩
  · rw [blk_set hv']; rfl
  · rw [blk_far (Ne.symm hne), blk_set hcur]
  · have hlt : off < cur.toList.length := by rw [Array.length_toList]; omega
    rw [Array.toList_setIfInBounds, List.drop_set]
    rw [if_neg (by omega), Nat.sub_self, List.take_set, ht]
    rfl
  · refine ⟨by simp [hp.1], fun j bs hj => ?_⟩
    cases j with
    | zero =>
      simp only [List.getElem?_cons_zero, Option.some.injEq] at hj
      subst hj
      exact ⟨A1, c1, rfl, hc1, hm1, hr1⟩
    | succ j => exact hp.2 j bs (by simpa using hj)
  · exact (hb.setCell (p := ⟨gp, off, none⟩) hgp _).setCell (p := ⟨gv, 1, none⟩) h1 _

set_option maxHeartbeats 4000000 in
set_option maxRecDepth 100000 in
theorem readByteNext (w0 w : World) (gv taken n : Nat) (b : UInt8) (r : List UInt8) (htk : taken < 1000000000000000000) (h : Gv w0 w gv taken n (b :: r)) :
    Calls Tryd.prog 37 #[.pointer (some ⟨gv, 0, none⟩)] w fun e w' => e = .returned (.tuple #[.int .u8 (b.toNat : Int), .nilIface]) ∧ (∃ m, Gv w0 w' gv (taken + 1) m r) ∧ Fr w w' := by
  go_enter Tryd.func37, Tryd.ntmps37
  go_wp2
  go_loopg [] n (fun k wr => Gv w0 wr gv taken k (b :: r) ∧ Fr w wr)
  case atStart => exact ⟨h, Fr.refl _⟩
  case round =>
    clear h
    obtain ⟨hgv, hfr⟩ := hrel
    have HF := Lib.hid hfr
    have HG := Lib.hid hgv
    clear hfr hgv
    cases gk with
    | zero =>
      exfalso
      obtain ⟨A, c, ps, bss, h1, h2, h3, h4, h5, h6⟩ := HG.out
      have e1 := h3.1
      have e2 := h4.1
      have e3 : bss = [] := List.eq_nil_of_length_eq_zero (by omega)
      rw [e3] at h5
      simp at h5
    | succ k =>
      obtain ⟨gp, off, c, cur, A1, c1, b0, ps, bss, h1, h2, hne, hv, hp, hc, hcm, hsz, ht, hc0, hb1, hb2, hrd, hpl, hparts, hrest, hb⟩ := HG.out.some_
      have c0 := blk_cell hv 0
      simp only [List.getElem?_toArray, List.getElem?_cons_zero] at c0
      have f0 := blk_free hv 0
      have cp := (blk_cell hp off).trans hc0
      have hkc : (1 : Int) ≤ (k : Int) + 1 := by omega
      by_cases hb0 : b0 = []
      · subst hb0
        rw [List.length_nil] at cp
        rw [List.nil_append] at hrest
        by_cases hc1 : c = 1
        · subst hc1
          obtain rfl : k = 0 := by omega
          have hpop := Gv.pop h1 h2 hne hv hp hc hcm hsz ht hpl hparts hrest.symm hb (some ⟨gp, off, none⟩) (.inl (by omega))
          have HP := Lib.hid hpop
          clear hpop hv hp hc0 hparts hrest hb hrd ht
          go_wp2
          go_roundg 0
          case measure => omega
          case rel => exact ⟨HP.out.1, HF.out.trans HP.out.2⟩
        · have hpop := Gv.pop h1 h2 hne hv hp hc hcm hsz ht hpl hparts hrest.symm hb (some ⟨gp, off + 1, none⟩) (.inr rfl)
          have HP := Lib.hid hpop
          clear hpop hv hp hc0 hparts hrest hb hrd ht
          go_wp2
          go_roundg k
          case measure => omega
          case rel => exact ⟨HP.out.1, HF.out.trans HP.out.2⟩
      · obtain ⟨d, b0, rfl⟩ : ∃ d q, b0 = d :: q := by
          cases b0 with
          | nil => exact absurd rfl hb0
          | cons d q => exact ⟨d, q, rfl⟩
        simp only [List.cons_append, List.cons.injEq] at hrest
        obtain ⟨rfl, hrest⟩ := hrest
        obtain ⟨g1, o1, rfl, hg1, hcb⟩ := (hrd.below hb).at_ (k := 0) (u := .int .u8 (b.toNat : Int)) (by simp [bc, Lib.byteCells])
        rw [Nat.add_zero] at hcb
        rw [List.length_cons] at cp hb1 ht
        have ct := blk_cell hv 1
        simp only [List.getElem?_toArray, List.getElem?_cons_succ, List.getElem?_cons_zero] at ct
        have f1 := blk_free hv 1
        have fp := blk_free hp off
        have hnz : ((b0.length : Int) + 1 == 0) = false := beq_eq_false_iff_ne.2 (by omega)
        have hnk : ((k : Int) + 1 == 0) = false := beq_eq_false_iff_ne.2 (by omega)
        have hrd1 := hrd.drop' 1
        rw [List.drop_one, List.tail_cons] at hrd1
        have hb1i : (1 : Int) ≤ (b0.length : Int) + 1 := by omega
        have hb1j : (b0.length : Int) + 1 ≤ (c1 : Int) := by omega
        by_cases hcc : c1 = 1
        · subst hcc
          have hb00 : b0 = [] := List.eq_nil_of_length_eq_zero (by omega)
          subst hb00
          have hnext := Gv.next (b0 := []) h1 h2 hne hv hp hc hcm hsz ht hpl hparts hrest.symm hb (some ⟨g1, o1, none⟩) 0 (Nat.zero_le _) (Nat.zero_le _) Rd.nil
          have HX := Lib.hid hnext
          rw [List.length_nil] at cp
          clear hnext hrd1 hrd hb ht hparts hrest hc0 hv hp hnz hb1i hb1j
          go_wp2
          go_still_tail 12, (by kernel_rfl)
          go_wp2
          go_ret2
          exact ⟨rfl, ⟨_, HX.out.1.drew⟩, HF.out.trans HX.out.2.drew⟩
        · have hmap : (some (⟨g1, o1, none⟩ : Addr)).map (·.add 1) = some ⟨g1, o1 + 1, none⟩ := by simp [addr_add]
          rw [hmap] at hrd1
          have hnext := Gv.next h1 h2 hne hv hp hc hcm hsz ht hpl hparts hrest.symm hb (some ⟨g1, o1 + 1, none⟩) (c1 - 1) (by omega) (by omega) hrd1
          have HX := Lib.hid hnext
          clear hnext hrd1 hrd hb ht hparts hrest hc0 hmap hv hp
          go_wp2
          go_still_tail 12, (by kernel_rfl)
          go_wp2
          go_ret2
          exact ⟨rfl, ⟨_, HX.out.1.drew⟩, HF.out.trans HX.out.2.drew⟩
end Go.Proofs.YtllkjlfjoadifaaDoor
