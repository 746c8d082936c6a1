/-
  What is proved here: hex.Dump and impl.Dump return the text of a dump. Conditions: at most 100000000 bytes.
-/
import Derived.Test.YtbioeknobmcbiaaDo
import Derived.Test.YtbioeknobmcbiaaShelf
namespace Go.Proofs.Ytbioeknobmcbiaa
open Go.RowKit

theorem sk_of_built {B b : Nat} {w : World} (h : Lib.BuilderAt 65 5 B b (.pointer (some ⟨b, 0, none⟩)) [] w) : ∃ v, Sk bS B w b v [] := by
  obtain ⟨hB, v, hat, hown, _⟩ := h
  exact ⟨v, hB, hat, hown⟩
theorem built_of_sk {B b : Nat} {w : World} {v : Value} {out : List UInt8} (h : Sk bS B w b v out) : Lib.IsBuilder 65 5 B b (Lib.byteCells out) w := by
  refine .inr ⟨h.ge, v, h.at_, ?_, fun e => own_ne h.own h.at_ (by decide) e.symm⟩
  have := h.own
  rwa [← bc_length] at this
theorem Sk.alloc {S : Snk} {B g : Nat} {w : World} {v : Value} {out : List UInt8} (h : Sk S B w g v out) (o : Obj) : Sk S B (w.alloc o) g v out := by
  have hlt := blk_lt h.at_
  refine ⟨h.ge, ?_, own_below h.own ((Below.refl _ _).alloc (Nat.le_refl _) _)⟩
  rw [((Below.refl w.heap.size w).alloc (Nat.le_refl _) o).block g hlt]
  exact h.at_

theorem grow_ (B b : Nat) (z : Int) (n : Nat) (hz : z = (n : Int)) (w : World) (hB : B ≤ b) (hbk : w.heap[b]? = some (.cells #[.pointer none, .slice none 0 0] 65 (0, 0))) (hBw : B ≤ w.heap.size) (hn : n ≤ 281474976710656) :
    Calls Try.prog 30 #[.pointer (some ⟨b, 0, none⟩), .int .i64 z] w fun e w' => e = .returned (.tuple #[]) ∧ Lib.BuilderAt 65 5 B b (.pointer (some ⟨b, 0, none⟩)) [] w' ∧ Below B w w' := by
  subst hz
  exact Try.Builder_Grow_fresh B b n w hB hbk hBw hn

set_option maxHeartbeats 2000000 in
set_option maxRecDepth 100000 in
theorem hexDump (w : World) (A : Option Addr) (c : Nat) (data : List UInt8) (hr : Rd w A (bc data)) (hcap : data.length ≤ c) (hl : data.length ≤ 100000000) :
    Calls Try.prog 23 #[.slice A data.length c] w fun e w' => e = .returned (.string (bstr (dumpFrom 0 data))) ∧ Below w.heap.size w w' := by
  have HR := Lib.hid hr
  clear hr
  by_cases h0 : data.length = 0
  · have HE := Lib.hid (show dumpFrom 0 data = [] by rw [List.eq_nil_of_length_eq_zero h0, dump_nil])
    go_enter Try.func23, Try.ntmps23
    go_wp2
    go_ret
    rw [HE.out]
    exact ⟨rfl, Below.refl _ _⟩
  · have hmeth := dmeth
    have hmethC := dmethC
    have hat : (w.alloc (.cells #[.pointer none, .slice none 0 0] 65)).heap[w.heap.size]? = some (.cells #[.pointer none, .slice none 0 0] 65 (0, 0)) := by
      show (w.heap.push _)[w.heap.size]? = _
      rw [Array.getElem?_push, if_pos rfl]
    have HAT := Lib.hid hat
    clear hat
    have hpos : 0 < data.length := by omega
    go_enter Try.func23, Try.ntmps23
    go_wp2_with fail
    refine (grow_ w.heap.size w.heap.size _ ((1 + (data.length - 1) / 16) * 79) (by omega) _ (Nat.le_refl _) HAT.out (by simp) (by omega)).mono ?_
    rintro e w2 ⟨rfl, hbu, hb2⟩
    have B2 := Lib.hid (((Below.refl _ _).alloc (Nat.le_refl _) _).trans hb2)
    obtain ⟨v, hsk⟩ := sk_of_built hbu
    have HSK := Lib.hid hsk
    clear hbu hb2 hsk HAT
    go_wp2_with fail
    refine (dumper_ bS w.heap.size _).mono ?_
    rintro e w3 ⟨rfl, hw3⟩
    have HD := Lib.hid (show Dst bS w.heap.size w2.heap.size w.heap.size v w3 v w3 [] by
      rw [hw3]
      refine Dst.init (HSK.out.alloc _) B2.out.size ?_
      show (w2.heap.push _)[w2.heap.size]? = _
      rw [Array.getElem?_push, if_pos rfl]
      rfl)
    have B3 := Lib.hid (show Below w.heap.size w w3 by rw [hw3]; exact B2.out.alloc B2.out.size _)
    clear hw3 HSK B2
    go_wp2_with fail
    refine (dwriteR bS bS_ok w.heap.size _ _ v w3 [] HD.out A data.length c data rfl (by simp; omega) hcap (HR.out.below B3.out) (fun b off e => ?hne)).mono ?_
    case hne =>
      have hlt : b < w.heap.size := by
        rcases HR.out with h | ⟨b', off', hA, hlt, _⟩
        · have hz := congrArg List.length h
          rw [bc_length, List.length_nil] at hz
          omega
        · rw [e] at hA
          injection hA with hA
          injection hA with hA
          omega
      have h1 := HD.out.ltD
      refine ⟨by omega, by omega, fun e => ?_⟩
      have := (own_lt HD.out.sk.own b e.symm).1
      omega
    rintro e w4 ⟨rfl, v4, hd4⟩
    have HD4 := Lib.hid hd4
    clear hd4
    go_wp2_with fail
    refine (dclose bS bS_ok w.heap.size _ _ _ _ _ HD4.out.restart (by simp; omega)).mono ?_
    rintro e w5 ⟨rfl, v5, hs5, hg5⟩
    have B5 := Lib.hid (B3.out.trans ((HD4.out.gr.trans hg5).below HD.out.ltD.1 HD.out.ltg.1 (fun j hj => (own_lt HD.out.sk.own j hj).1) B3.out.size))
    have HS5 := Lib.hid hs5
    clear hs5 hg5 HD4 HD B3
    go_wp2_with fail
    refine (Try.Builder_String_any w.heap.size w.heap.size _ w5 (built_of_sk HS5.out) B5.out.size).mono ?_
    rintro e w6 ⟨rfl, hb6⟩
    have B6 := Lib.hid (B5.out.trans hb6)
    clear hb6
    go_wp2
    go_ret
    exact ⟨rfl, B6.out⟩

set_option maxHeartbeats 1000000 in
theorem dump_ (w : World) (A : Option Addr) (c : Nat) (data : List UInt8) (hr : Rd w A (bc data)) (hcap : data.length ≤ c) (hl : data.length ≤ 100000000) :
    Calls Try.prog 13 #[.slice A data.length c] w fun e w' => e = .returned (.string (bstr (dumpFrom 0 data))) ∧ Below w.heap.size w w' := by
  have HC := Lib.hid (hexDump w A c data hr hcap hl)
  clear hr
  go_enter Try.func13, Try.ntmps13
  go_wp2_with fail
  refine HC.out.mono ?_
  rintro e w' ⟨rfl, hb⟩
  go_wp2
  go_ret
  exact ⟨rfl, hb⟩
end Go.Proofs.Ytbioeknobmcbiaa
