/-
  What is proved here: what dumper.Close does, over either writer: the text that has been written is then the whole dump. Conditions: the dumper is open, and it has been given at most 1000000000 bytes.
-/
import Derived.Test.YtbioeknobmcbiaaDw
import Derived.Test.YtbioeknobmcbiaaTxt
namespace Go.Proofs.Ytbioeknobmcbiaa
open Go.RowKit

def bfC (bf : List UInt8) : List UInt8 := ((((bf.set 0 32).set 1 32).set 2 32).set 3 32).set 4 124
theorem bfC_at {bf : List UInt8} (h : bf.length = 14) (u : Nat) : ∀ (j : Nat) (y : UInt8), (blkC u)[j]? = some y → (bfC bf)[0 + j]? = some y := by
  obtain ⟨a, b, c, d, e, f, g, i, j, k, l, m, nn, o, rfl⟩ := len14 h
  intro q y hq
  rw [Nat.zero_add]
  unfold blkC at hq
  unfold bfC
  by_cases h7 : u = 7
  · rw [if_pos h7] at hq
    match q, hq with
    | 0, hq => exact hq
    | 1, hq => exact hq
    | 2, hq => exact hq
    | 3, hq => exact hq
  · rw [if_neg h7] at hq
    by_cases h15 : u = 15
    · rw [if_pos h15] at hq
      match q, hq with
      | 0, hq => exact hq
      | 1, hq => exact hq
      | 2, hq => exact hq
      | 3, hq => exact hq
      | 4, hq => exact hq
    · rw [if_neg h15] at hq
      match q, hq with
      | 0, hq => exact hq
      | 1, hq => exact hq
      | 2, hq => exact hq
theorem bfC_len {bf : List UInt8} (h : bf.length = 14) : (bfC bf).length = 14 := by simp [bfC, h]
theorem last_bytes {rc : List UInt8} (h : rc.length = 18) (u : Nat) (hu : u < 16) : ∀ (j : Nat) (y : UInt8), (rc.take u ++ [124, 10])[j]? = some y → ((rc.set u 124).set (u + 1) 10)[j]? = some y := by
  intro j y hj
  have hlt : (rc.take u).length = u := by rw [List.length_take]; omega
  by_cases h1 : j < u
  · rw [List.getElem?_append_left (by omega), List.getElem?_take, if_pos h1] at hj
    rw [List.getElem?_set_ne (by omega), List.getElem?_set_ne (by omega)]
    exact hj
  · rw [List.getElem?_append_right (by omega), hlt] at hj
    by_cases h2 : j = u
    · subst h2
      rw [Nat.sub_self] at hj
      rw [List.getElem?_set_ne (by omega), List.getElem?_set_self (by omega)]
      exact hj
    · by_cases h3 : j = u + 1
      · subst h3
        rw [show u + 1 - u = 1 by omega] at hj
        rw [List.getElem?_set_self (by rw [List.length_set]; omega)]
        exact hj
      · rw [List.getElem?_eq_none (by simp; omega)] at hj
        cases hj

/-- what is left when a dumper is closed -/
def Closed (S : Snk) (B D g : Nat) (v : Value) (w : World) (ds : List UInt8) (e : Ending) (w' : World) : Prop :=
  e = .returned .nilIface ∧ ∃ v', Sk S B w' g v' (dumpFrom 0 ds) ∧ Grew2 D g v w v' w'

set_option maxHeartbeats 8000000 in
set_option maxRecDepth 100000 in
theorem dclose0 (S : Snk) (hS : S.Ok) (B D g : Nat) (v : Value) (w : World) (ds : List UInt8) (hd : Dst S B D g v w v w ds) (hu : ds.length % 16 = 0) :
   Calls Try.prog 52 #[.pointer (some ⟨D, 0, none⟩)] w (Closed S B D g v w ds) := by
  obtain ⟨rc, bf, hdm, hrc⟩ := hd
  rw [hu] at hdm
  have HD := Lib.hid (hdm.setClosed hS true)
  have cl := hdm.dp.closed_
  have cu := hdm.dp.used_
  have fl := hdm.dp.free 35
  have HO := Lib.hid (show dumpFrom 0 ds = openFrom 0 ds by rw [dump_close, closeT, if_pos hu, List.append_nil])
  clear hdm hrc hu
  go_enter Try.func52, Try.ntmps52
  go_wp2
  go_ret
  exact ⟨rfl, v, by rw [HO.out]; exact HD.out.sk, HD.out.gr⟩

set_option maxHeartbeats 8000000 in
set_option maxRecDepth 100000 in
theorem dclose1 (S : Snk) (hS : S.Ok) (B D g : Nat) (v : Value) (w : World) (rc bf : List UInt8) (u n : Nat) (out : List UInt8) (hdm : Dm S B D g v w v w rc bf u n false out) (hu0 : 0 < u) (hu16 : u < 16) (hout : out.length ≤ 100000000000) :
   Calls Try.prog 52 #[.pointer (some ⟨D, 0, none⟩)] w (fun e w' => e = .returned .nilIface ∧ ∃ v', Sk S B w' g v' (out ++ blksC u (16 - u) ++ (rc.take u ++ [124, 10])) ∧ Grew2 D g v w v' w') := by
  have cl := hdm.dp.closed_
  have cu := hdm.dp.used_
  have fl := hdm.dp.free 35
  obtain ⟨x0, c0⟩ := hdm.buf 0 (by decide)
  obtain ⟨x1, c1⟩ := hdm.buf 1 (by decide)
  obtain ⟨x2, c2⟩ := hdm.buf 2 (by decide)
  obtain ⟨x3, c3⟩ := hdm.buf 3 (by decide)
  obtain ⟨x4, c4⟩ := hdm.buf 4 (by decide)
  have f0 := hdm.dp.free 19
  have f1 := hdm.dp.free 20
  have f2 := hdm.dp.free 21
  have f3 := hdm.dp.free 22
  have f4 := hdm.dp.free 23
  have HD := Lib.hid ((((((hdm.setClosed hS true).setBuf hS 0 (by decide) 32).setBuf hS 1 (by decide) 32).setBuf hS 2 (by decide) 32).setBuf hS 3 (by decide) 32).setBuf hS 4 (by decide) 124)
  have HLB := Lib.hid hdm.dp.lb
  have HLR := Lib.hid hdm.dp.lr
  have hu0' : ((u : Int) == 0) = false := by simp; omega
  clear hdm
  go_enter Try.func52, Try.ntmps52
  go_wp2
  clear cl cu fl c0 c1 c2 c3 c4 f0 f1 f2 f3 f4 hu0'
  go_loopg [2] (16 - u) (fun k e wr => ∃ v', k + u ≤ 16 ∧ e = .nilIface ∧ Dm S B D g v w v' wr rc (bfC bf) (16 - k) n true (out ++ blksC u (16 - k - u)))
  case atStart => exact ⟨v, by omega, rfl, by rw [show 16 - (16 - u) = u by omega, Nat.sub_self, blksC, List.append_nil]; exact HD.out⟩
  case round =>
    clear HD
    obtain ⟨v', hk, rfl, hd⟩ := hrel
    have hbl := blksC_length u (16 - gk - u)
    obtain ⟨q, hq⟩ : ∃ q, 16 - gk = q := ⟨_, rfl⟩
    rw [hq] at hd hbl
    have hqu : u ≤ q := by omega
    have hq16 : q ≤ 16 := by omega
    have HQ := Lib.hid hq
    clear hq
    have cu := hd.dp.used_
    have HD := Lib.hid hd
    clear hd
    by_cases hlt : q < 16
    · go_upto_if 50 with fail
      go_cut [4] (fun l wx => l = .int .i64 ((ctl q : Nat) : Int) ∧ Dm S B D g v w v' wx rc (bfC bf) q n true (out ++ blksC u (q - u)))
      case first =>
        by_cases h7 : q = 7
        · as_aux_lemma =>
          subst h7
          go_wp2
          go_meet
          exact ⟨rfl, HD.out⟩
        · by_cases h15 : q = 15
          · as_aux_lemma =>
            subst h15
            go_wp2
            go_meet
            exact ⟨rfl, HD.out⟩
          · as_aux_lemma =>
            have HL := Lib.hid (show ctl q = 3 by unfold ctl; rw [if_neg h7, if_neg h15])
            go_wp2
            go_meet
            rw [HL.out]
            exact ⟨rfl, HD.out⟩
      case rest =>
        as_aux_lemma =>
        obtain ⟨rfl, hd⟩ := hcut
        clear cu HD
        have HD := Lib.hid hd
        have c0 := hd.dp.w_
        obtain ⟨l, hl0⟩ : ∃ l, ctl q = l := ⟨_, rfl⟩
        have hl3 : 3 ≤ l ∧ l ≤ 5 := by rw [← hl0]; unfold ctl; split <;> (try split) <;> omega
        have HR := Lib.hid ((hd.drew hS).rdBuf 0 (blkC q) (bfC_at HLB.out q))
        have HL := Lib.hid ((blkC_length q).trans hl0)
        rw [hl0]
        obtain ⟨hl3, hl5⟩ := hl3
        have hli : (0 : Int) ≤ (l : Int) := by omega
        have hli14 : (l : Int) ≤ 14 := by omega
        clear hd hl0
        have hmeth := hS.meth
        have hcall := hS.call
        go_wp2
        go_region_held3 (fun x => x.cell? ⟨D, 0, none⟩ = some (S.iv g)) (first | assumption | go_keep)
          (first | (refine (dmWrite (HD.out.drew hS) hS (some ⟨D, 19, none⟩) l 14 (blkC q) HR.out HL.out (by simp only [List.length_append]; omega)).mono ?_; rintro e w7 ⟨rfl, v2, hd1⟩; have HD1 := Lib.hid hd1; have c1 := hd1.dp.w_; have cu := hd1.dp.used_; have f33 := hd1.dp.free 33; clear hd1))
        go_wp2
        go_roundg (gk - 1)
        case measure => have := HQ.out; omega
        case rel =>
          have hq := HQ.out
          refine ⟨v2, by omega, rfl, ?_⟩
          rw [show 16 - (gk - 1) = q + 1 by omega, show q + 1 - u = (q - u) + 1 by omega, blksC, show u + (q - u) = q by omega, ← List.append_assoc]
          exact HD1.out.setUsed hS (q + 1)
    · as_aux_lemma =>
      obtain rfl : q = 16 := by omega
      obtain ⟨y0, d0⟩ := HD.out.right u (by omega)
      obtain ⟨y1, d1⟩ := HD.out.right (u + 1) (by omega)
      have e0 := HD.out.dp.free (1 + u)
      have e1 := HD.out.dp.free (1 + (u + 1))
      have hui0 : (0 : Int) ≤ (u : Int) := by omega
      have hui : (u : Int) < 18 := by omega
      have hui1 : (u : Int) + 1 < 18 := by omega
      have hui2 : (u : Int) + 2 ≤ 18 := by omega
      have hwr : IntKind.i64.wrap ((u : Int) + 2) = (u : Int) + 2 := IntWalk.i64_in _ (by omega)
      have htn : ((u : Int) + 2).toNat = u + 2 := by omega
      have htn0 : (0 : Int) ≤ (u : Int) + 2 := by omega
      have htn1 : (0 : Int) ≤ (u : Int) + 1 := by omega
      go_upto_region 21 with fail
      refine gen_wp (fun wx => Dm S B D g v w v' wx ((rc.set u 124).set (u + 1) 10) (bfC bf) 16 n true (out ++ blksC u (16 - u))) ?hgen ?_
      case hgen => exact (HD.out.setRight hS u (by omega) 124).setRight hS (u + 1) (by omega) 10
      clear d0 d1 e0 e1 HD cu
      intro w9 hd9
      have HD9 := Lib.hid hd9
      have c0 := hd9.dp.w_
      have HR := Lib.hid ((hd9.drew hS).rdRight (rc.take u ++ [124, 10]) (last_bytes HLR.out u hu16))
      have HL := Lib.hid (show (rc.take u ++ [124, 10]).length = u + 2 by rw [List.length_append, List.length_take, HLR.out, Nat.min_eq_left (by omega)]; rfl)
      clear hd9
      have hmeth := hS.meth
      have hcall := hS.call
      go_region_held3 (fun x => x.cell? ⟨D, 0, none⟩ = some (S.iv g)) (first | assumption | go_keep)
        (first | (refine (dmWrite (HD9.out.drew hS) hS (some ⟨D, 1, none⟩) (u + 2) 18 (rc.take u ++ [124, 10]) HR.out HL.out (by simp only [List.length_append]; omega)).mono ?_; rintro e w10 ⟨rfl, v3, hd1⟩; have HD1 := Lib.hid hd1; have c1 := hd1.dp.w_; clear hd1))
      go_wp2
      go_ret
      exact ⟨rfl, v3, HD1.out.sk, HD1.out.gr⟩

theorem dclose (S : Snk) (hS : S.Ok) (B D g : Nat) (v : Value) (w : World) (ds : List UInt8) (hd : Dst S B D g v w v w ds) (hl : ds.length ≤ 1000000000) :
   Calls Try.prog 52 #[.pointer (some ⟨D, 0, none⟩)] w (Closed S B D g v w ds) := by
  by_cases hu : ds.length % 16 = 0
  · exact dclose0 S hS B D g v w ds hd hu
  · obtain ⟨rc, bf, hdm, hrc⟩ := hd
    have hol := open_length 0 ds
    refine (dclose1 S hS B D g v w rc bf _ _ _ hdm (by omega) (by omega) (by omega)).mono ?_
    rintro e w' ⟨rfl, v', hs, hg⟩
    refine ⟨rfl, v', ?_, hg⟩
    rw [dump_close, closeT, if_neg hu, ← hrc]
    have e : blksC (ds.length % 16) (16 - ds.length % 16) = blanks (ds.length % 16) (16 - ds.length % 16) ++ [124] := by
      rw [show 16 - ds.length % 16 = (15 - ds.length % 16) + 1 by omega]
      exact blksC_all _ _ (by omega)
    rw [e] at hs
    simpa only [List.append_assoc] using hs
end Go.Proofs.Ytbioeknobmcbiaa
