/-
  What is proved here: what the reader of pieces gives: its next byte, or the end of the file. Conditions: io.EOF holds a value; the reader's memory is the call's own.
-/
import Derived.Test.YtllkjlfjoadifaaDoorCutc
import Derived.Deep.LoopGhost
import Derived.Deep.QuietTactic
import Derived.BigQuiet
import Derived.Deep.RegionHeld3
namespace Go.Proofs.YtllkjlfjoadifaaDoor
open Go.RowKit

/-- Blocks of another element type than those of the reader are as they were. -/
structure Fr (w w' : World) : Prop where
  os : w'.os = w.os
  tape : w'.tape = w.tape
  output : w'.output = w.output
  size : w.heap.size ≤ w'.heap.size
  block : ∀ (k : Nat) (cur : Array Value) (t : TypeId) (fz : Nat × Nat), w.heap[k]? = some (Obj.cells cur t fz) → t ≠ 24 → t ≠ 52 → w'.heap[k]? = w.heap[k]?

theorem Fr.refl (w : World) : Fr w w := ⟨rfl, rfl, rfl, Nat.le_refl _, fun _ _ _ _ _ _ _ => rfl⟩
theorem Fr.trans {a b c : World} (h : Fr a b) (k : Fr b c) : Fr a c :=
  ⟨k.os.trans h.os, k.tape.trans h.tape, k.output.trans h.output, Nat.le_trans h.size k.size, fun i cur t fz hi h1 h2 => (k.block i cur t fz ((h.block i cur t fz hi h1 h2).trans hi) h1 h2).trans (h.block i cur t fz hi h1 h2)⟩
theorem Fr.drewN {a w : World} (h : Fr a w) (n : Nat) : Fr a (w.drewN n) := ⟨h.os, h.tape, h.output, h.size, h.block⟩
theorem Fr.drew {a w : World} (h : Fr a w) : Fr a w.drew := ⟨h.os, h.tape, h.output, h.size, h.block⟩
theorem Fr.set {w : World} {g : Nat} {cs : Array Value} {t : TypeId} (hg : w.heap[g]? = some (.cells cs t (0, 0))) (ht : t = 24 ∨ t = 52) (i : Nat) (u : Value) : Fr w (w.setCell ⟨g, i, none⟩ u) :=
  ⟨rfl, rfl, rfl, by simp, fun k cur t' fz hk h1 h2 => Below.heap_setCell w ⟨g, i, none⟩ u k (fun e => by
    subst e
    rw [hg] at hk
    injection hk with hk
    injection hk with _ hk
    rcases ht with h | h
    · exact h1 (hk.symm.trans h)
    · exact h2 (hk.symm.trans h))⟩

theorem own_fr {w w' : World} {base : Nat} {e : TypeId} {size n : Nat} {v : Value} {xs : List Value} (h : w.ownsRow base e size v n xs) (h1 : e ≠ 24) (h2 : e ≠ 52) (hf : Fr w w') : w'.ownsRow base e size v n xs := by
  refine ⟨h.1, ?_⟩
  rcases h.2 with h | ⟨g, cap, cur, hv, hg, hh, hr⟩
  · exact .inl h
  · exact .inr ⟨g, cap, cur, hv, hg, by rw [hf.block g _ _ _ hh h1 h2]; exact hh, hr⟩

theorem blk_cell {w : World} {g : Nat} {t : TypeId} {cs : Array Value} (h : w.heap[g]? = some (.cells cs t (0, 0))) (i : Nat) : w.cell? ⟨g, i, none⟩ = cs[i]? := cell_of_row w g i cs t (0, 0) h
theorem blk_free {w : World} {g : Nat} {t : TypeId} {cs : Array Value} (h : w.heap[g]? = some (.cells cs t (0, 0))) (i : Nat) : w.frozen? ⟨g, i, none⟩ = false := frozen_of_row w g i cs t h
theorem blk_set {w : World} {g : Nat} {t : TypeId} {cs : Array Value} (h : w.heap[g]? = some (.cells cs t (0, 0))) (i : Nat) (u : Value) : (w.setCell ⟨g, i, none⟩ u).heap[g]? = some (.cells (cs.setIfInBounds i u) t (0, 0)) := heap_setCell_same w g i cs t u h
theorem blk_far {w : World} {g k : Nat} (h : k ≠ g) (i : Nat) (u : Value) : (w.setCell ⟨g, i, none⟩ u).heap[k]? = w.heap[k]? := Below.heap_setCell w ⟨g, i, none⟩ u k h
theorem blk_ne {w : World} {g g' : Nat} {t t' : TypeId} {cs cs' : Array Value} (h : w.heap[g]? = some (.cells cs t (0, 0))) (h' : w.heap[g']? = some (.cells cs' t' (0, 0))) (hne : t ≠ t') : g ≠ g' := by
  rintro rfl
  rw [h] at h'
  injection h' with h'
  injection h' with _ ht
  exact hne ht

/-- the pieces' own row -/
def Row (w0 w : World) (A : Option Addr) (n c : Nat) (ps : List Value) : Prop :=
  ps.length = n ∧ n ≤ c ∧ c ≤ maxLen ∧ (n = 0 ∨ ∃ gp off cur, A = some ⟨gp, off, none⟩ ∧ w0.heap.size ≤ gp ∧ w.heap[gp]? = some (.cells cur 24 (0, 0)) ∧ off + c ≤ cur.size ∧ (cur.toList.drop off).take n = ps)

/-- the reader, with what is left to read -/
def Gv (w0 w : World) (gv : Nat) (taken : Nat) (n : Nat) (rest : List UInt8) : Prop :=
  ∃ (A : Option Addr) (c : Nat) (ps : List Value) (bss : List (List UInt8)), w0.heap.size ≤ gv ∧ w.heap[gv]? = some (.cells #[.slice A n c, .int .i64 (taken : Int)] 52 (0, 0)) ∧
    Row w0 w A n c ps ∧ Parts w0 ps bss ∧ bss.flatten = rest ∧ Below w0.heap.size w0 w

theorem Row.drewN {w0 w : World} {A : Option Addr} {n c : Nat} {ps : List Value} (h : Row w0 w A n c ps) (q : Nat) : Row w0 (w.drewN q) A n c ps := h
theorem below_dn {B : Nat} {a w : World} (h : Below B a w) (q : Nat) : Below B a (w.drewN q) := ⟨h.os, h.tape, h.output, h.size, h.block⟩
theorem Gv.drewN {w0 w : World} {gv taken n : Nat} {rest : List UInt8} (h : Gv w0 w gv taken n rest) (q : Nat) : Gv w0 (w.drewN q) gv taken n rest := by
  obtain ⟨A, c, ps, bss, h1, h2, h3, h4, h5, h6⟩ := h
  exact ⟨A, c, ps, bss, h1, h2, h3, h4, h5, below_dn h6 q⟩

theorem Gv.drew {w0 w : World} {gv taken n : Nat} {rest : List UInt8} (h : Gv w0 w gv taken n rest) : Gv w0 w.drew gv taken n rest := by
  obtain ⟨A, c, ps, bss, h1, h2, h3, h4, h5, h6⟩ := h
  exact ⟨A, c, ps, bss, h1, h2, h3, h4, h5, h6.drew⟩

/-- a reader with a piece: what stands where -/
theorem Gv.some_ {w0 w : World} {gv taken n : Nat} {rest : List UInt8} (h : Gv w0 w gv taken (n + 1) rest) :
    ∃ (gp off c : Nat) (cur : Array Value) (A1 : Option Addr) (c1 : Nat) (b0 : List UInt8) (ps : List Value) (bss : List (List UInt8)), w0.heap.size ≤ gv ∧ w0.heap.size ≤ gp ∧ gv ≠ gp ∧
      w.heap[gv]? = some (.cells #[.slice (some ⟨gp, off, none⟩) (n + 1) c, .int .i64 (taken : Int)] 52 (0, 0)) ∧ w.heap[gp]? = some (.cells cur 24 (0, 0)) ∧ n + 1 ≤ c ∧ c ≤ maxLen ∧ off + c ≤ cur.size ∧
      (cur.toList.drop off).take (n + 1) = .slice A1 b0.length c1 :: ps ∧ cur[off]? = some (.slice A1 b0.length c1) ∧ b0.length ≤ c1 ∧ c1 ≤ maxLen ∧ Rd w0 A1 (bc b0) ∧ ps.length = n ∧ Parts w0 ps bss ∧ rest = b0 ++ bss.flatten ∧ Below w0.heap.size w0 w := by
  obtain ⟨A, c, ps, bss, h1, h2, ⟨h3, h4, h5, h6⟩, hp, hf, hb⟩ := h
  rcases h6 with h6 | ⟨gp, off, cur, rfl, hgp, hcur, hsz, ht⟩
  · omega
  · obtain ⟨p, ps, rfl⟩ : ∃ p q, ps = p :: q := by
      cases ps with
      | nil => simp at h3
      | cons p q => exact ⟨p, q, rfl⟩
    obtain ⟨b0, bss, rfl⟩ : ∃ p q, bss = p :: q := by
      cases bss with
      | nil => have := hp.1; simp at this
      | cons p q => exact ⟨p, q, rfl⟩
    obtain ⟨A1, c1, e1, e2, e3, e4⟩ := hp.2 0 b0 rfl
    simp only [List.getElem?_cons_zero, Option.some.injEq] at e1
    subst e1
    have hc0 : cur[off]? = some (.slice A1 b0.length c1) := by
      have h7 : ((cur.toList.drop off).take (n + 1))[0]? = some (.slice A1 b0.length c1) := by rw [ht]; rfl
      rw [List.getElem?_take, if_pos (by omega), List.getElem?_drop] at h7
      simpa using h7
    refine ⟨gp, off, c, cur, A1, c1, b0, ps, bss, h1, hgp, blk_ne h2 hcur (by decide), h2, hcur, h4, h5, hsz, ht, hc0, e2, e3, e4, by simpa using h3, ⟨by have := hp.1; simpa using this, fun j bs hj => ?_⟩, by rw [← hf]; rfl, hb⟩
    exact hp.2 (j + 1) bs (by simpa using hj)

/-- behind 'g.pieces = g.pieces[1:]' -/
theorem Gv.pop {w0 w : World} {gv taken n gp off c : Nat} {cur : Array Value} {p : Value} {ps : List Value} {bss : List (List UInt8)} {rest : List UInt8} (h1 : w0.heap.size ≤ gv) (hgp : w0.heap.size ≤ gp) (hne : gv ≠ gp)
    (h2 : w.heap[gv]? = some (.cells #[.slice (some ⟨gp, off, none⟩) (n + 1) c, .int .i64 (taken : Int)] 52 (0, 0))) (hcur : w.heap[gp]? = some (.cells cur 24 (0, 0))) (h4 : n + 1 ≤ c) (h5 : c ≤ maxLen) (hsz : off + c ≤ cur.size)
    (ht : (cur.toList.drop off).take (n + 1) = p :: ps) (hl : ps.length = n) (hp : Parts w0 ps bss) (hf : bss.flatten = rest) (hb : Below w0.heap.size w0 w) (A' : Option Addr) (hA : n = 0 ∨ A' = some ⟨gp, off + 1, none⟩) :
    Gv w0 (w.setCell ⟨gv, 0, none⟩ (.slice A' n (c - 1))) gv taken n rest ∧ Fr w (w.setCell ⟨gv, 0, none⟩ (.slice A' n (c - 1))) := by
  refine ⟨⟨A', c - 1, ps, bss, h1, ?_, ⟨hl, by omega, by omega, ?_⟩, hp, hf, hb.setCell (p := ⟨gv, 0, none⟩) h1 _⟩, Fr.set h2 (.inr rfl) _ _⟩
  · rw [blk_set h2]; rfl
  · rcases hA with hA | hA
    · exact .inl hA
    · refine .inr ⟨gp, off + 1, cur, hA, hgp, (blk_far (Ne.symm hne) _ _).trans hcur, by omega, ?_⟩
      have h7 : ((cur.toList.drop off).take (n + 1)).drop 1 = ps := by rw [ht]; rfl
      rw [List.drop_take, List.drop_drop] at h7
      rw [show n + 1 - 1 = n by omega] at h7
      exact h7
end Go.Proofs.YtllkjlfjoadifaaDoor
