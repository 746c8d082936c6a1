/-
  What is proved here: spec.digit and spec.Address return a digit and the last eight digits of a number to the base 16. Conditions: a number from 0 to 1000000000000.
-/
import Derived.Test.YtbioeknobmcbiaaLen
import Derived.Lib.SlBytesConst
namespace Go.Proofs.Ytbioeknobmcbiaa
open Go.RowKit

set_option maxHeartbeats 1000000 in
theorem digit_ (w : World) (n : Nat) (hn : n ≤ 1000000000000) : Calls Try.prog 29 #[.int .i64 (n : Int)] w fun e w' => e = .returned (.int .u8 ((hexd n).toNat : Int)) ∧ w' = w := by
  have hm : n % 16 < 16 := by omega
  have ht := tbl_at _ hm
  rw [hexd_mod] at ht
  have hmi : (0 : Int) ≤ (n : Int) % 16 ∧ (n : Int) % 16 < 16 := by omega
  have htn : ((n : Int) % 16).toNat = n % 16 := by omega
  go_enter Try.func29, Try.ntmps29
  go_wp2
  go_ret
  exact ⟨by simp, rfl⟩

theorem mk_set {w : World} {g i : Nat} {cs : List Value} {t : TypeId} {fr : Nat × Nat} (h : w.heap[g]? = some (.cells cs.toArray t fr)) (v : Value) : (w.setCell ⟨g, i, none⟩ v).heap[g]? = some (.cells (cs.set i v).toArray t fr) := by
  have := Lib.heap_setCell_same (i := i) h v
  rw [List.setIfInBounds_toArray] at this
  exact this
theorem mk_free {w : World} {g i : Nat} {cs : Array Value} {t : TypeId} {lo hi : Nat} (h : w.heap[g]? = some (.cells cs t (lo, hi))) (hi_ : i < lo) : w.frozen? ⟨g, i, none⟩ = false := by
  simp [World.frozen?, h]; omega
theorem rep_set (r : Nat) (x : UInt8) (done : List UInt8) : ((List.replicate (r + 1) 48) ++ done).set r x = List.replicate r 48 ++ (x :: done) := by
  rw [List.replicate_succ', List.append_assoc, List.set_append_right _ _ (by simp)]
  simp

set_option maxHeartbeats 2000000 in
set_option maxRecDepth 100000 in
theorem address (w : World) (n : Nat) (hn : n ≤ 1000000000000) : Calls Try.prog 20 #[.int .i64 (n : Int)] w fun e w' => e = .returned (.string (bstr (digits 8 n))) ∧ Below w.heap.size w w' := by
  have kc := fun (w : World) (C : Array Value) (n c : Nat) => Lib.run_convert_bytes_const (P := Try.prog) w 25 5 C n c Try.underlying25 Try.underlying5
  go_enter Try.func20, Try.ntmps20
  go_wp2
  clear kc
  go_loopg [0, 4] 8 (fun r m i wr => ∃ (y : Nat) (z : Int) (done : List UInt8), r ≤ 8 ∧ m = .int .i64 (y : Int) ∧ y ≤ n ∧ i = .int .i64 z ∧ z = (r : Int) - 1 ∧ digits 8 n = digits r y ++ done ∧ r + done.length = 8 ∧ wr.heap[w.heap.size]? = some (.cells (bc (List.replicate r 48 ++ done)).toArray 5 (8, 9)) ∧ Below w.heap.size w wr)
  case atStart =>
    refine ⟨n, 7, [], by omega, rfl, Nat.le_refl _, rfl, by omega, by simp, rfl, ?_, (Below.refl _ _).alloc (Nat.le_refl _) _⟩
    show (w.heap.push _)[w.heap.size]? = _
    rw [Array.getElem?_push, if_pos rfl]
    rfl
  case round =>
    obtain ⟨y, z, done, hr8, rfl, hyn, rfl, hz, hdig, hlen, hat, hbw⟩ := hrel
    have HDG := Lib.hid hdig
    have HB := Lib.hid hbw
    have HAT := Lib.hid hat
    clear hdig hbw hat
    cases gk with
    | succ r =>
      obtain rfl : z = (r : Int) := by omega
      clear hz
      have hri : (r : Int) < 8 := by omega
      have hr0 : (0 : Int) ≤ (r : Int) := by omega
      obtain ⟨x0, hx0⟩ : ∃ x, wr.cell? ⟨w.heap.size, r, none⟩ = some x := by
        rw [cell_of_row _ _ _ _ _ _ HAT.out, List.getElem?_toArray]
        exact ⟨_, List.getElem?_eq_getElem (by rw [bc_length]; simp; omega)⟩
      have hf0 := mk_free HAT.out (i := r) (by omega)
      have HL := Lib.hid hlen
      clear hlen
      go_wp2_with (go_at_call 29; refine (digit_ _ y (by omega)).mono ?_; rintro e w' ⟨rfl, rfl⟩)
      go_roundg r
      case measure => omega
      case rel =>
        refine ⟨y / 16, _, hexd y :: done, by omega, by go_num, by omega, rfl, by omega, ?_, by have := HL.out; simp; omega, ?_, HB.out.setCell (Nat.le_refl _) _⟩
        · rw [HDG.out, digits, List.append_assoc]; rfl
        · rw [mk_set HAT.out, bc_set, rep_set]
    | zero =>
      obtain rfl : z = -1 := by omega
      clear hz
      have hd8 : digits 8 n = done := by rw [HDG.out]; rfl
      have hl8 : done.length = 8 := by omega
      have HDD := Lib.hid hd8
      have hrd : Rd wr (some ⟨w.heap.size, 0, none⟩) (bc done) := .inr ⟨w.heap.size, 0, rfl, blk_lt HAT.out, fun j u hu => by
        rw [Nat.zero_add, cell_of_row _ _ _ _ _ _ HAT.out, List.getElem?_toArray]
        exact hu⟩
      have hcv := conv_string hrd 8
      rw [hl8] at hcv
      clear hrd hd8 hlen hl8
      go_wp2
      go_ret
      rw [HDD.out]
      exact ⟨rfl, HB.out⟩
end Go.Proofs.Ytbioeknobmcbiaa
