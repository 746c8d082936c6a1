/-
  What is proved here: words for the memory of a dumper (its struct behind a pointer, field by field) and of a writer that keeps what it gets, and what a store into them leaves. Conditions: each lemma says its own.
-/
import Derived.Test.YtbioeknobmcbiaaHex
import Derived.Test.YtbioeknobmcbiaaApp
import Derived.Deep.LoopGhost
import Derived.Deep.QuietTactic
import Derived.BigQuiet
import Derived.StillTailTactics
namespace Go.Proofs.Ytbioeknobmcbiaa
open Go.RowKit

theorem blk_cell {w : World} {g : Nat} {t : TypeId} {cs : Array Value} (h : w.heap[g]? = some (.cells cs t (0, 0))) (i : Nat) : w.cell? ⟨g, i, none⟩ = cs[i]? := cell_of_row w g i cs t (0, 0) h
theorem blk_free {w : World} {g : Nat} {t : TypeId} {cs : Array Value} (h : w.heap[g]? = some (.cells cs t (0, 0))) (i : Nat) : w.frozen? ⟨g, i, none⟩ = false := frozen_of_row w g i cs t h
theorem blk_set {w : World} {g : Nat} {t : TypeId} {cs : Array Value} (h : w.heap[g]? = some (.cells cs t (0, 0))) (i : Nat) (u : Value) : (w.setCell ⟨g, i, none⟩ u).heap[g]? = some (.cells (cs.setIfInBounds i u) t (0, 0)) := heap_setCell_same w g i cs t u h
theorem blk_far {w : World} {g k : Nat} (h : k ≠ g) (i : Nat) (u : Value) : (w.setCell ⟨g, i, none⟩ u).heap[k]? = w.heap[k]? := Below.heap_setCell w ⟨g, i, none⟩ u k h
theorem blk_lt {w : World} {g : Nat} {o : Obj} (h : w.heap[g]? = some o) : g < w.heap.size := (Array.getElem?_eq_some_iff.1 h).1
theorem blk_ne {w : World} {g g' : Nat} {t t' : TypeId} {cs cs' : Array Value} (h : w.heap[g]? = some (.cells cs t (0, 0))) (h' : w.heap[g']? = some (.cells cs' t' (0, 0))) (hne : t ≠ t') : g ≠ g' := by
  rintro rfl
  rw [h] at h'
  injection h' with h'
  injection h' with _ ht
  exact hne ht

/-- only block D may have turned, and none has come -/
structure Only (D : Nat) (w w' : World) : Prop where
  os : w'.os = w.os
  tape : w'.tape = w.tape
  output : w'.output = w.output
  size : w'.heap.size = w.heap.size
  block : ∀ k, k ≠ D → w'.heap[k]? = w.heap[k]?
theorem Only.refl (D : Nat) (w : World) : Only D w w := ⟨rfl, rfl, rfl, rfl, fun _ _ => rfl⟩
theorem Only.trans {D : Nat} {a b c : World} (h : Only D a b) (k : Only D b c) : Only D a c :=
  ⟨k.os.trans h.os, k.tape.trans h.tape, k.output.trans h.output, k.size.trans h.size, fun i hi => (k.block i hi).trans (h.block i hi)⟩
theorem Only.set {D : Nat} {a w : World} (h : Only D a w) (i : Nat) (u : Value) : Only D a (w.setCell ⟨D, i, none⟩ u) :=
  h.trans ⟨rfl, rfl, rfl, by simp, fun _ hk => blk_far hk i u⟩
theorem Only.drew {D : Nat} {a w : World} (h : Only D a w) : Only D a w.drew := ⟨h.os, h.tape, h.output, h.size, h.block⟩
theorem Only.drewN {D : Nat} {a w : World} (h : Only D a w) (n : Nat) : Only D a (w.drewN n) := ⟨h.os, h.tape, h.output, h.size, h.block⟩
theorem Only.cell {D : Nat} {w w' : World} (h : Only D w w') {p : Addr} (hp : p.block ≠ D) : w'.cell? p = w.cell? p := World.cell?_of_block (w := w) (h.block p.block hp)

/-- xs laid over l from i on -/
def put (l : List Value) (i : Nat) (xs : List Value) : List Value := l.take i ++ xs ++ l.drop (i + xs.length)
theorem put_length (l : List Value) (i : Nat) (xs : List Value) (h : i + xs.length ≤ l.length) : (put l i xs).length = l.length := by
  unfold put; simp only [List.length_append, List.length_take, List.length_drop]; omega
theorem put_nil (l : List Value) (i : Nat) : put l i [] = l := by unfold put; simp
theorem put_before (l : List Value) (i : Nat) (xs : List Value) (j : Nat) (hj : j < i) (hi : i ≤ l.length) : (put l i xs)[j]? = l[j]? := by
  unfold put
  rw [List.append_assoc, List.getElem?_append_left (by rw [List.length_take]; omega), List.getElem?_take, if_pos hj]
theorem put_snoc (l : List Value) (i : Nat) (xs : List Value) (a : Value) (h : i + xs.length < l.length) : (put l i xs).set (i + xs.length) a = put l i (xs ++ [a]) := by
  unfold put
  have e1 : (l.take i ++ xs).length = i + xs.length := by rw [List.length_append, List.length_take]; omega
  rw [List.set_append_right _ _ (by omega), e1, Nat.sub_self]
  rw [List.drop_eq_getElem_cons h, List.set_cons_zero]
  rw [show i + (xs ++ [a]).length = i + xs.length + 1 by simp; omega]
  simp

/-! the dumper -/
def dcs (iv : Value) (rc bf : List UInt8) (used n : Nat) (cl : Bool) : List Value := iv :: (bc rc ++ (bc bf ++ [.int .i64 (used : Int), .int .u64 (n : Int), .bool cl]))
/-- block D holds a dumper -/
structure Dp (w : World) (D : Nat) (iv : Value) (rc bf : List UInt8) (used n : Nat) (cl : Bool) : Prop where
  lr : rc.length = 18
  lb : bf.length = 14
  at_ : w.heap[D]? = some (.cells (dcs iv rc bf used n cl).toArray 60 (0, 0))

theorem bc_at {l : List UInt8} {j : Nat} {b : UInt8} (h : l[j]? = some b) : (bc l)[j]? = some (.int .u8 (b.toNat : Int)) := by simp [bc, Lib.byteCells, h]
theorem bc_set (l : List UInt8) (i : Nat) (b : UInt8) : (bc l).set i (.int .u8 (b.toNat : Int)) = bc (l.set i b) := by simp [bc, Lib.byteCells, List.map_set]

section
variable {w : World} {D : Nat} {iv : Value} {rc bf : List UInt8} {used n : Nat} {cl : Bool}
theorem Dp.free (h : Dp w D iv rc bf used n cl) (i : Nat) : w.frozen? ⟨D, i, none⟩ = false := blk_free h.at_ i
theorem Dp.w_ (h : Dp w D iv rc bf used n cl) : w.cell? ⟨D, 0, none⟩ = some iv := by rw [blk_cell h.at_]; rfl
theorem Dp.right (h : Dp w D iv rc bf used n cl) (i : Nat) (b : UInt8) (hb : rc[i]? = some b) : w.cell? ⟨D, 1 + i, none⟩ = some (.int .u8 (b.toNat : Int)) := by
  have hi : i < rc.length := (List.getElem?_eq_some_iff.1 hb).1
  rw [blk_cell h.at_, dcs, List.getElem?_toArray, Nat.add_comm, List.getElem?_cons_succ, List.getElem?_append_left (by rw [bc_length]; omega)]
  exact bc_at hb
theorem Dp.buf (h : Dp w D iv rc bf used n cl) (i : Nat) (b : UInt8) (hb : bf[i]? = some b) : w.cell? ⟨D, 19 + i, none⟩ = some (.int .u8 (b.toNat : Int)) := by
  have hi : i < bf.length := (List.getElem?_eq_some_iff.1 hb).1
  have h1 := h.lr
  rw [blk_cell h.at_, dcs, List.getElem?_toArray, show 19 + i = 18 + i + 1 by omega, List.getElem?_cons_succ, List.getElem?_append_right (by rw [bc_length]; omega), bc_length, h1,
    show 18 + i - 18 = i by omega, List.getElem?_append_left (by rw [bc_length]; omega)]
  exact bc_at hb
theorem Dp.tail (h : Dp w D iv rc bf used n cl) (i : Nat) : w.cell? ⟨D, 33 + i, none⟩ = ([.int .i64 (used : Int), .int .u64 (n : Int), .bool cl] : List Value)[i]? := by
  have h1 := h.lr
  have h2 := h.lb
  rw [blk_cell h.at_, dcs, List.getElem?_toArray, show 33 + i = 18 + (14 + i) + 1 by omega, List.getElem?_cons_succ, List.getElem?_append_right (by rw [bc_length]; omega), bc_length, h1,
    show 18 + (14 + i) - 18 = 14 + i by omega, List.getElem?_append_right (by rw [bc_length]; omega), bc_length, h2, show 14 + i - 14 = i by omega]
theorem Dp.used_ (h : Dp w D iv rc bf used n cl) : w.cell? ⟨D, 33, none⟩ = some (.int .i64 (used : Int)) := h.tail 0
theorem Dp.n_ (h : Dp w D iv rc bf used n cl) : w.cell? ⟨D, 34, none⟩ = some (.int .u64 (n : Int)) := h.tail 1
theorem Dp.closed_ (h : Dp w D iv rc bf used n cl) : w.cell? ⟨D, 35, none⟩ = some (.bool cl) := h.tail 2

theorem Dp.setRight (h : Dp w D iv rc bf used n cl) (i : Nat) (hi : i < 18) (b : UInt8) : Dp (w.setCell ⟨D, 1 + i, none⟩ (.int .u8 (b.toNat : Int))) D iv (rc.set i b) bf used n cl := by
  have h1 := h.lr
  refine ⟨by rw [List.length_set]; exact h1, h.lb, ?_⟩
  rw [blk_set h.at_]
  rw [List.setIfInBounds_toArray, dcs, Nat.add_comm, List.set_cons_succ, List.set_append_left _ _ (by rw [bc_length]; omega), bc_set]
  rfl
theorem Dp.setBuf (h : Dp w D iv rc bf used n cl) (i : Nat) (hi : i < 14) (b : UInt8) : Dp (w.setCell ⟨D, 19 + i, none⟩ (.int .u8 (b.toNat : Int))) D iv rc (bf.set i b) used n cl := by
  have h1 := h.lr
  have h2 := h.lb
  refine ⟨h1, by rw [List.length_set]; exact h2, ?_⟩
  rw [blk_set h.at_]
  rw [List.setIfInBounds_toArray, dcs, show 19 + i = 18 + i + 1 by omega, List.set_cons_succ, List.set_append_right _ _ (by rw [bc_length]; omega), bc_length, h1, show 18 + i - 18 = i by omega,
    List.set_append_left _ _ (by rw [bc_length]; omega), bc_set]
  rfl
theorem Dp.setTail (h : Dp w D iv rc bf used n cl) (i : Nat) (u : Value) : (w.setCell ⟨D, 33 + i, none⟩ u).heap[D]? = some (.cells (iv :: (bc rc ++ (bc bf ++ ([.int .i64 (used : Int), .int .u64 (n : Int), .bool cl] : List Value).set i u))).toArray 60 (0, 0)) := by
  have h1 := h.lr
  have h2 := h.lb
  rw [blk_set h.at_]
  rw [List.setIfInBounds_toArray, dcs, show 33 + i = 18 + (14 + i) + 1 by omega, List.set_cons_succ, List.set_append_right _ _ (by rw [bc_length]; omega), bc_length, h1, show 18 + (14 + i) - 18 = 14 + i by omega,
    List.set_append_right _ _ (by rw [bc_length]; omega), bc_length, h2, show 14 + i - 14 = i by omega]
theorem Dp.setUsed (h : Dp w D iv rc bf used n cl) (m : Nat) : Dp (w.setCell ⟨D, 33, none⟩ (.int .i64 (m : Int))) D iv rc bf m n cl := ⟨h.lr, h.lb, h.setTail 0 _⟩
theorem Dp.setN (h : Dp w D iv rc bf used n cl) (m : Nat) : Dp (w.setCell ⟨D, 34, none⟩ (.int .u64 (m : Int))) D iv rc bf used m cl := ⟨h.lr, h.lb, h.setTail 1 _⟩
theorem Dp.setClosed (h : Dp w D iv rc bf used n cl) (b : Bool) : Dp (w.setCell ⟨D, 35, none⟩ (.bool b)) D iv rc bf used n b := ⟨h.lr, h.lb, h.setTail 2 _⟩
theorem Dp.drew (h : Dp w D iv rc bf used n cl) : Dp w.drew D iv rc bf used n cl := ⟨h.lr, h.lb, h.at_⟩
theorem Dp.drewN (h : Dp w D iv rc bf used n cl) (q : Nat) : Dp (w.drewN q) D iv rc bf used n cl := ⟨h.lr, h.lb, h.at_⟩
theorem Dp.lt (h : Dp w D iv rc bf used n cl) : D < w.heap.size := blk_lt h.at_
theorem Dp.same (h : Dp w D iv rc bf used n cl) {w' : World} (e : w'.heap[D]? = w.heap[D]?) : Dp w' D iv rc bf used n cl := ⟨h.lr, h.lb, e.trans h.at_⟩
/-- bytes laid over the buffer -/
theorem Dp.putBuf (h : Dp w D iv rc bf used n cl) (i : Nat) (xs : List UInt8) (hi : i + xs.length ≤ 14) : put (dcs iv rc bf used n cl) (19 + i) (bc xs) = dcs iv rc (bf.take i ++ xs ++ bf.drop (i + xs.length)) used n cl := by
  have h1 := h.lr
  have h2 := h.lb
  have e : dcs iv rc bf used n cl = (iv :: bc rc) ++ ((bc (bf.take i) ++ (bc ((bf.drop i).take xs.length) ++ bc (bf.drop (i + xs.length)))) ++ [.int .i64 (used : Int), .int .u64 (n : Int), .bool cl]) := by
    have e2 : bf = bf.take i ++ ((bf.drop i).take xs.length ++ bf.drop (i + xs.length)) := by
      rw [← List.drop_drop, List.take_append_drop, List.take_append_drop]
    rw [← bc_append, ← bc_append, ← e2]; rfl
  have hl1 : (bc (bf.take i)).length = i := by rw [bc_length, List.length_take]; omega
  have hl2 : (bc ((bf.drop i).take xs.length)).length = xs.length := by rw [bc_length, List.length_take, List.length_drop]; omega
  have hl0 : (iv :: bc rc).length = 19 := by rw [List.length_cons, bc_length]; omega
  unfold put
  rw [e, bc_length]
  rw [show 19 + i = (iv :: bc rc).length + i by omega, List.take_length_add_append, List.append_assoc (bc (bf.take i)), List.take_append_of_le_length (by omega), List.take_of_length_le (by omega)]
  rw [show (iv :: bc rc).length + i + xs.length = (iv :: bc rc).length + (i + xs.length) by omega, List.drop_length_add_append]
  rw [show i + xs.length = (bc (bf.take i)).length + xs.length by omega, List.drop_length_add_append, List.append_assoc (bc _) (bc _), List.drop_append_of_le_length (by omega), List.drop_of_length_le (by omega)]
  rw [hl1, dcs, bc_append, bc_append]
  simp
end
end Go.Proofs.Ytbioeknobmcbiaa
