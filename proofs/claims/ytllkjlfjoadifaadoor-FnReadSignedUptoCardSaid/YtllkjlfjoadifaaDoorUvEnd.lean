/-
  What is proved here: binary.ReadUvarint at the end of the reader's bytes, and within a number; impl.end at the three errors that come. Conditions: io.EOF and io.ErrUnexpectedEOF hold values as their initialisers lay them.
-/
import Derived.Test.YtllkjlfjoadifaaDoorUv
import Derived.LaidEql
namespace Go.Proofs.YtllkjlfjoadifaaDoor
open Go.RowKit

abbrev errV (a : Addr) : Value := .iface 61 (.pointer (some a))

/-- the two errors that a reader gives at its end -/
structure Errs (w : World) (aE aU : Addr) : Prop where
  e : w.cell? ⟨0, 0, none⟩ = some (errV aE)
  u : w.cell? ⟨1, 0, none⟩ = some (errV aU)
  ne : aU ≠ aE
  be : ∃ (c : Array Value) (t : TypeId), w.heap[aE.block]? = some (.cells c t (0, 0))
  bu : ∃ (c : Array Value) (t : TypeId), w.heap[aU.block]? = some (.cells c t (0, 0))
  size : 1 < w.heap.size

theorem Errs.below {w w' : World} {aE aU : Addr} (h : Errs w aE aU) (hb : Below w.heap.size w w') : Errs w' aE aU := by
  obtain ⟨he, hu, hne, ⟨c, t, h1⟩, ⟨c', t', h2⟩, hs⟩ := h
  exact ⟨(hb.cell (p := ⟨0, 0, none⟩) (by show 0 < _; omega)).trans he, (hb.cell (p := ⟨1, 0, none⟩) (by show 1 < _; omega)).trans hu, hne,
    ⟨c, t, (hb.block _ (Array.getElem?_eq_some_iff.1 h1).1).trans h1⟩, ⟨c', t', (hb.block _ (Array.getElem?_eq_some_iff.1 h2).1).trans h2⟩, Nat.lt_of_lt_of_le hs hb.size⟩

theorem comp61 : (Tryd.prog.info? 61).map (·.comparable) = some true := by kernel_rfl
theorem size81 : (Tryd.prog.info? 81).map (·.size) = some 1 := by kernel_rfl

theorem eq_same (a : Addr) (w : World) : (binOp .eql 48 (errV a) (errV a)).run Tryd.prog w = .ok (.bool true) w := by
  obtain ⟨i, hi, hcmp⟩ := Option.map_eq_some_iff.1 comp61
  obtain ⟨j, hj, _⟩ := Option.map_eq_some_iff.1 size81
  exact run_eql_iface_ptr_same w a Tryd.underlying48 Tryd.underlying61 hi hcmp hj
theorem eq_other {w : World} {aE aU : Addr} (h : Errs w aE aU) : (binOp .eql 48 (errV aU) (errV aE)).run Tryd.prog w = .ok (.bool false) w := by
  obtain ⟨i, hi, hcmp⟩ := Option.map_eq_some_iff.1 comp61
  obtain ⟨j, hj, hjs⟩ := Option.map_eq_some_iff.1 size81
  obtain ⟨c, t, h1⟩ := h.be
  obtain ⟨c', t', h2⟩ := h.bu
  exact run_eql_iface_ptr_other w Tryd.underlying48 Tryd.underlying61 hi hcmp hj (by rw [hjs]; decide) h.ne h2 h1

theorem Gv.old {w0 w : World} {gv taken n : Nat} {rest : List UInt8} (h : Gv w0 w gv taken n rest) : Below w0.heap.size w0 w := by
  obtain ⟨_, _, _, _, _, _, _, _, _, h⟩ := h
  exact h

set_option maxHeartbeats 1000000 in
set_option maxRecDepth 100000 in
theorem endEof {w : World} {aE aU : Addr} (h : Errs w aE aU) : Calls Tryd.prog 19 #[errV aE] w fun e w' => e = .returned (.int .i64 1) ∧ w = w' := by
  have h1 := h.e
  have h2 := eq_same aE w
  go_enter Tryd.func19, Tryd.ntmps19
  go_wp2
  go_ret
  exact ⟨rfl, rfl⟩

set_option maxHeartbeats 1000000 in
set_option maxRecDepth 100000 in
theorem endShort {w : World} {aE aU : Addr} (h : Errs w aE aU) : Calls Tryd.prog 19 #[errV aU] w fun e w' => e = .returned (.int .i64 2) ∧ w = w' := by
  have h1 := h.e
  have h3 := h.u
  have h2 := eq_same aU w
  have h4 := eq_other h
  go_enter Tryd.func19, Tryd.ntmps19
  go_wp2
  go_ret
  exact ⟨rfl, rfl⟩

set_option maxHeartbeats 2000000 in
set_option maxRecDepth 100000 in
theorem uvEnd (w0 w : World) (gv taken n : Nat) (aE aU : Addr) (hE : Errs w0 aE aU) (h : Gv w0 w gv taken n []) :
    Calls Tryd.prog 21 #[.iface 45 (.pointer (some ⟨gv, 0, none⟩))] w fun e w' => e = .returned (.tuple #[.int .u64 0, errV aE]) ∧ (∃ m, Gv w0 w' gv taken m []) ∧ Fr w w' := by
  have hmeth := method_read ⟨gv, 0, none⟩
  have HE := Lib.hid hE
  have HG := Lib.hid h
  clear h hE
  go_enter Tryd.func21, Tryd.ntmps21
  go_wp2
  refine wp_loop_rounds 1 ?_
  rw [rounds_succ]
  go_wp2_with fail
  refine (readByteEnd w0 _ gv taken n (errV aE) HE.out.e (by have := HE.out.size; show 0 < _; omega) HG.out).mono ?_
  rintro e w1 ⟨rfl, hg1, hf1⟩
  have HG1 := Lib.hid hg1
  clear hg1
  go_wp2
  go_ret2
  exact ⟨rfl, HG1.out, hf1⟩

set_option maxHeartbeats 2000000 in
set_option maxRecDepth 100000 in
theorem uvShort (w0 w : World) (gv taken n : Nat) (pre : List UInt8) (aE aU : Addr) (hE : Errs w0 aE aU) (hp : ∀ d ∈ pre, 128 ≤ d.toNat) (h0 : 0 < pre.length) (h9 : pre.length ≤ 9) (htk : taken < 900000000000000000) (h : Gv w0 w gv taken n pre) :
    Calls Tryd.prog 21 #[.iface 45 (.pointer (some ⟨gv, 0, none⟩))] w fun e w' => e = .returned (.tuple #[.int .u64 (uval pre : Nat), errV aU]) ∧ (∃ m, Gv w0 w' gv (taken + pre.length) m []) ∧ Fr w w' := by
  have HP := Lib.hid hp
  have HE := Lib.hid hE
  clear hp hE
  have hmeth := method_read ⟨gv, 0, none⟩
  go_enter Tryd.func21, Tryd.ntmps21
  go_wp2
  go_loopw [4, 5, 6] (fun x s i wr => ∃ k m : Nat, k ≤ pre.length ∧ i = .int .i64 k ∧ s = .int .u64 (7 * (k : Int)) ∧ x = .int .u64 (uval (pre.take k) : Nat) ∧ Gv w0 wr gv (taken + k) m (pre.drop k) ∧ Fr w wr) (fun _ _ i _ => 10 - (intOf i).toNat)
  case atStart => exact ⟨0, n, Nat.zero_le _, rfl, rfl, rfl, h, Fr.refl _⟩
  case round =>
    clear h
    obtain ⟨k, m, hk, rfl, rfl, rfl, hgv, hfr⟩ := hrel
    have HG := Lib.hid hgv
    have HF := Lib.hid hfr
    have hul := uval_lt (pre.take k)
    have HUL := Lib.hid hul
    clear hgv hfr hul
    by_cases hlt : k < pre.length
    · obtain ⟨d, hd⟩ : ∃ d, pre[k]? = some d := ⟨_, List.getElem?_eq_getElem hlt⟩
      have hdr : pre.drop k = d :: pre.drop (k + 1) := by rw [List.drop_eq_getElem?_toList_append, hd]; rfl
      rw [hdr] at HG
      have hd128 := HP.out d (mem_of_at hd)
      have hd256 := d.toNat_lt
      have hor := or_step (d := d) (show k ≤ 8 by omega) (by have := HUL.out; rwa [List.length_take, Nat.min_eq_left (by omega)] at this)
      rw [← uval_take hd] at hor
      clear hdr hd
      go_wp2_with fail
      refine (readByteNext w0 _ gv (taken + k) m d _ (by omega) HG.out).mono ?_
      rintro e w1 ⟨rfl, ⟨m1, hg1⟩, hf1⟩
      have HG1 := Lib.hid hg1
      have HF1 := Lib.hid (HF.out.trans hf1)
      clear hg1 hf1
      go_wp2
      go_roundw
      case rel => exact ⟨k + 1, m1, by omega, by go_num, by go_num, rfl, HG1.out, HF1.out⟩
      case measure => simp [intOf]; omega
    · obtain rfl : k = pre.length := by omega
      rw [List.drop_length] at HG
      rw [List.take_length]
      have hk10 : decide ((pre.length : Int) < 10) = true := by simp; omega
      go_wp2_with fail
      refine (readByteEnd w0 _ gv (taken + pre.length) m (errV aE) HE.out.e (by have := HE.out.size; show 0 < _; omega) HG.out).mono ?_
      rintro e w1 ⟨rfl, hg1, hf1⟩
      have hE1 := HE.out.below (hg1.elim fun _ h => h.old)
      have hc1 := hE1.e
      have hc2 := hE1.u
      have hq := eq_same aE w1
      have HG1 := Lib.hid hg1
      have HF1 := Lib.hid (HF.out.trans hf1)
      clear hg1 hf1 hE1
      go_wp2
      go_ret2
      exact ⟨rfl, HG1.out, HF1.out⟩
end Go.Proofs.YtllkjlfjoadifaaDoor
