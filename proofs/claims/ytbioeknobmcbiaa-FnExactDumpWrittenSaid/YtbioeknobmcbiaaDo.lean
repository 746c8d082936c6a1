/-
  What is proved here: impl.DumpWritten and impl.DumpOpen return the text of a dump (closed; open) and the number of its bytes. Conditions: all parts together have at most 1000000000 bytes, and there are at most 1000000000 of them.
-/
import Derived.Test.YtbioeknobmcbiaaDp
import Derived.Laws.IdiomStrings
import Derived.Lib.BufferRead
import Derived.Lib.Strings
namespace Go.Proofs.Ytbioeknobmcbiaa
open Go.RowKit

theorem conv_string {W : World} {A : Option Addr} {bs : List UInt8} (h : Rd W A (bc bs)) (c : Nat) : (convert 25 9 (.slice A bs.length c)).run Try.prog W = .ok (.string ⟨bs.toArray⟩) W := by
  rcases h with h | ⟨b, off, rfl, _, hc⟩
  · have h0 : bs = [] := by simpa [bc, Lib.byteCells] using h
    subst h0
    cases A with
    | none => exact Lib.run_convert_nil_bytes W 25 9 5 c Try.underlying25 Try.underlying5 Try.underlying9
    | some a => exact run_convert_bytes_back W 25 9 5 a c [] Try.underlying25 Try.underlying5 Try.underlying9 (fun j hj => by simp at hj)
  · refine run_convert_bytes_back W 25 9 5 ⟨b, off, none⟩ c bs Try.underlying25 Try.underlying5 Try.underlying9 (fun j hj => ?_)
    rw [addr_add]
    exact hc j _ (by simp [bc, Lib.byteCells, List.getElem?_eq_getElem hj])

theorem below_dr {B : Nat} {a w : World} (h : Below B a w) (q : Nat) : Below B a (w.drewN q) := ⟨h.os, h.tape, h.output, h.size, h.block⟩

theorem str_inj {x y : ByteArray} (h : x.toList = y.toList) : x = y := by
  rw [ByteArray.toList_eq, ByteArray.toList_eq] at h
  exact WideShapes.bytes_inj h


abbrev bstr (l : List UInt8) : ByteArray := ⟨l.toArray⟩
/-- a keeper that has just been made, and a dumper over it -/
theorem kinit (w : World) : Dst kS w.heap.size (w.heap.size + 1) w.heap.size (.slice none 0 0) ((w.alloc (.cells #[.slice none 0 0] 40)).alloc (newD kS w.heap.size)) (.slice none 0 0) ((w.alloc (.cells #[.slice none 0 0] 40)).alloc (newD kS w.heap.size)) [] := by
  refine Dst.init ⟨Nat.le_refl _, ?_, World.ownsRow_nil _ _ _ _⟩ (Nat.le_succ _) ?_
  · show ((w.heap.push _).push _)[w.heap.size]? = _
    simp only [Array.getElem?_push, Array.size_push]
    rw [if_neg (by omega), if_pos trivial]
    rfl
  · show ((w.heap.push _).push _)[w.heap.size + 1]? = _
    simp only [Array.getElem?_push, Array.size_push]
    rw [if_pos trivial]
    rfl

theorem writeParts' (S : Snk) (hS : S.Ok) (D g : Nat) (v : Value) (wo w : World) (hd : Dst S wo.heap.size D g v w v w []) (hbel : Below wo.heap.size wo w) (A : Option Addr) (c : Nat) (ps : List Value) (bss : List (List UInt8)) (all : List UInt8) (ha : bss.flatten = all) (hr : Rd wo A ps) (hp : Parts wo ps bss) (hl : all.length ≤ 1000000000) (hn : bss.length ≤ 1000000000) :
    Calls Try.prog 22 #[.iface 55 (.pointer (some ⟨D, 0, none⟩)), .slice A bss.length c] w fun e w' => e = .returned (.int .i64 (all.length : Int)) ∧ ∃ v', Dst S wo.heap.size D g v w v' w' all := by
  subst ha
  exact writeParts S hS D g v wo w hd hbel A c ps bss hr hp hl hn

set_option maxHeartbeats 2000000 in
set_option maxRecDepth 100000 in
theorem dumpWritten (w : World) (A : Option Addr) (c : Nat) (ps : List Value) (bss : List (List UInt8)) (all : List UInt8) (ha : bss.flatten = all) (hr : Rd w A ps) (hp : Parts w ps bss) (hl : all.length ≤ 1000000000) (hn : bss.length ≤ 1000000000) :
    Calls Try.prog 11 #[.slice A bss.length c] w fun e w' => e = .returned (.tuple #[.string (bstr (dumpFrom 0 all)), .int .i64 (all.length : Int)]) ∧ Below w.heap.size w w' := by
  have HR := Lib.hid hr
  have HP := Lib.hid hp
  have HD := Lib.hid (kinit w)
  have HA := Lib.hid ha
  clear hr hp ha
  have hmeth := dmethC
  have HB := Lib.hid (show Below w.heap.size w ((w.alloc (.cells #[.slice none 0 0] 40)).alloc (newD kS w.heap.size)) from ((Below.refl _ _).alloc (Nat.le_refl _) _).alloc (by simp) _)
  go_enter Try.func11, Try.ntmps11
  go_wp2_with fail
  refine (dumper_ kS w.heap.size _).mono ?_
  rintro e w1 ⟨rfl, hw1⟩
  obtain ⟨wx, hwx⟩ : ∃ wx, wx = (w.alloc (.cells #[.slice none 0 0] 40)).alloc (newD kS w.heap.size) := ⟨_, rfl⟩
  rw [← hwx] at hw1 HD HB
  subst hw1
  clear hwx
  go_wp2_with fail
  refine (writeParts' kS kS_ok (w.heap.size + 1) w.heap.size (.slice none 0 0) w _ HD.out HB.out A c ps bss all HA.out HR.out HP.out hl hn).mono ?_
  rintro e w2 ⟨rfl, v2, hd2⟩
  have HD2 := Lib.hid hd2
  clear hd2
  go_wp2_with fail
  refine (dclose kS kS_ok w.heap.size _ _ _ _ _ HD2.out.restart hl).mono ?_
  rintro e w3 ⟨rfl, v3, hs3, hg3⟩
  have HBE := Lib.hid (HB.out.trans ((HD2.out.gr.trans hg3).below HD.out.ltD.1 HD.out.ltg.1 (fun j hj => (own_lt HD.out.sk.own j hj).1) HB.out.size))
  have c0 : w3.cell? ⟨w.heap.size, 0, none⟩ = some v3 := by rw [blk_cell hs3.at_]; rfl
  obtain ⟨A3, c3, rfl, _, _, hr3⟩ := own_rd hs3.own
  have hcv := conv_string hr3 c3
  clear hs3 hg3 hr3 HD HD2 HB
  go_wp2
  go_ret2
  exact ⟨rfl, HBE.out⟩

set_option maxHeartbeats 2000000 in
set_option maxRecDepth 100000 in
theorem dumpOpen (w : World) (A : Option Addr) (c : Nat) (ps : List Value) (bss : List (List UInt8)) (all : List UInt8) (ha : bss.flatten = all) (hr : Rd w A ps) (hp : Parts w ps bss) (hl : all.length ≤ 1000000000) (hn : bss.length ≤ 1000000000) :
    Calls Try.prog 14 #[.slice A bss.length c] w fun e w' => e = .returned (.tuple #[.string (bstr (openFrom 0 all)), .int .i64 (all.length : Int)]) ∧ Below w.heap.size w w' := by
  have HR := Lib.hid hr
  have HP := Lib.hid hp
  have HD := Lib.hid (kinit w)
  have HA := Lib.hid ha
  clear hr hp ha
  have HB := Lib.hid (show Below w.heap.size w ((w.alloc (.cells #[.slice none 0 0] 40)).alloc (newD kS w.heap.size)) from ((Below.refl _ _).alloc (Nat.le_refl _) _).alloc (by simp) _)
  go_enter Try.func14, Try.ntmps14
  go_wp2_with fail
  refine (dumper_ kS w.heap.size _).mono ?_
  rintro e w1 ⟨rfl, hw1⟩
  obtain ⟨wx, hwx⟩ : ∃ wx, wx = (w.alloc (.cells #[.slice none 0 0] 40)).alloc (newD kS w.heap.size) := ⟨_, rfl⟩
  rw [← hwx] at hw1 HD HB
  subst hw1
  clear hwx
  go_wp2_with fail
  refine (writeParts' kS kS_ok (w.heap.size + 1) w.heap.size (.slice none 0 0) w _ HD.out HB.out A c ps bss all HA.out HR.out HP.out hl hn).mono ?_
  rintro e w2 ⟨rfl, v2, hd2⟩
  have HBE := Lib.hid (HB.out.trans (hd2.gr.below HD.out.ltD.1 HD.out.ltg.1 (fun j hj => (own_lt HD.out.sk.own j hj).1) HB.out.size))
  have hs3 := hd2.sk
  have c0 : w2.cell? ⟨w.heap.size, 0, none⟩ = some v2 := by rw [blk_cell hs3.at_]; rfl
  obtain ⟨A3, c3, rfl, _, _, hr3⟩ := own_rd hs3.own
  have hcv := conv_string hr3 c3
  clear hs3 hr3 hd2 HD HB
  go_wp2
  go_ret2
  exact ⟨rfl, HBE.out⟩
end Go.Proofs.Ytbioeknobmcbiaa
