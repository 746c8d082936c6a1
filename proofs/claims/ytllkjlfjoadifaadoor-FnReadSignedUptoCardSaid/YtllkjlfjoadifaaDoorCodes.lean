/-
  What is proved here: codes of numbers as the readers take them, and laws.sameNumbers at equal lists. Conditions: each lemma says its own.
-/
import Derived.Test.YtllkjlfjoadifaaDoorRv
namespace Go.Proofs.YtllkjlfjoadifaaDoor
open Go.RowKit

/-- the bytes of one number of at most 64 bits: bytes that ask for more and one that does not -/
def Code (c : List UInt8) : Prop := ∃ (pre : List UInt8) (b : UInt8), c = pre ++ [b] ∧ (∀ d ∈ pre, 128 ≤ d.toNat) ∧ b.toNat < 128 ∧ pre.length ≤ 9 ∧ (pre.length = 9 → b.toNat ≤ 1)

theorem code_uvarint {x : Nat} (hx : x < 18446744073709551616) : Code (Lib.uvarint x) := by
  obtain ⟨pre, b, he, hp, hb, h9, h1, _⟩ := uvarint_parts hx
  exact ⟨pre, b, he, hp, hb, h9, h1⟩

theorem code_lt {c : List UInt8} (h : Code c) : uval c < 18446744073709551616 := by
  obtain ⟨pre, b, rfl, hp, hb, h9, h1⟩ := h
  have hl := uval_lt pre
  rw [uval_append]
  simp only [uval, Nat.mul_zero, Nat.add_zero]
  rw [Nat.mod_eq_of_lt hb]
  rcases Nat.lt_or_ge pre.length 9 with h | h
  · have h8 : 128 ^ pre.length ≤ 128 ^ 8 := Nat.pow_le_pow_right (by decide) (by omega)
    have e8 : (128 : Nat) ^ 8 = 72057594037927936 := by decide
    rw [e8] at h8
    have hm : 128 ^ pre.length * b.toNat ≤ 128 ^ pre.length * 127 := Nat.mul_le_mul_left _ (by omega)
    omega
  · have e9 : pre.length = 9 := by omega
    have hb1 := h1 e9
    rw [e9] at hl ⊢
    have e9' : (128 : Nat) ^ 9 = 9223372036854775808 := by decide
    rw [e9'] at hl ⊢
    have hm : 9223372036854775808 * b.toNat ≤ 9223372036854775808 * 1 := Nat.mul_le_mul_left _ hb1
    omega

theorem code_next (w0 w : World) (gv taken n : Nat) {c : List UInt8} (hc : Code c) (r : List UInt8) (htk : taken < 900000000000000000) (h : Gv w0 w gv taken n (c ++ r)) :
    Calls Tryd.prog 21 #[.iface 45 (.pointer (some ⟨gv, 0, none⟩))] w fun e w' => e = .returned (.tuple #[.int .u64 (uval c : Nat), .nilIface]) ∧ (∃ m, Gv w0 w' gv (taken + c.length) m r) ∧ Fr w w' := by
  obtain ⟨pre, b, rfl, hp, hb, h9, h1⟩ := hc
  rw [List.append_assoc, List.singleton_append] at h
  have := uvNext w0 w gv taken n pre b r hp hb h9 h1 htk h
  rw [List.length_append, List.length_singleton, ← Nat.add_assoc]
  exact this

theorem rv_next (w0 w : World) (gv taken n : Nat) {c : List UInt8} (hc : Code c) (r : List UInt8) (htk : taken < 900000000000000000) (h : Gv w0 w gv taken n (c ++ r)) :
    Calls Tryd.prog 18 #[.iface 45 (.pointer (some ⟨gv, 0, none⟩))] w fun e w' => e = .returned (.tuple #[.int .i64 (Lib.unzigzag (uval c)), .nilIface]) ∧ (∃ m, Gv w0 w' gv (taken + c.length) m r) ∧ Fr w w' :=
  rv _ (code_lt hc) _ _ w _ (code_next w0 w gv taken n hc r htk h)
theorem rv_end (w0 w : World) (gv taken n : Nat) (aE aU : Addr) (hE : Errs w0 aE aU) (h : Gv w0 w gv taken n []) :
    Calls Tryd.prog 18 #[.iface 45 (.pointer (some ⟨gv, 0, none⟩))] w fun e w' => e = .returned (.tuple #[.int .i64 (Lib.unzigzag 0), errV aE]) ∧ (∃ m, Gv w0 w' gv taken m []) ∧ Fr w w' :=
  rv 0 (by omega) _ _ w _ (uvEnd w0 w gv taken n aE aU hE h)
theorem rv_short (w0 w : World) (gv taken n : Nat) (pre : List UInt8) (aE aU : Addr) (hE : Errs w0 aE aU) (hp : ∀ d ∈ pre, 128 ≤ d.toNat) (h0 : 0 < pre.length) (h9 : pre.length ≤ 9) (htk : taken < 900000000000000000) (h : Gv w0 w gv taken n pre) :
    Calls Tryd.prog 18 #[.iface 45 (.pointer (some ⟨gv, 0, none⟩))] w fun e w' => e = .returned (.tuple #[.int .i64 (Lib.unzigzag (uval pre)), errV aU]) ∧ (∃ m, Gv w0 w' gv (taken + pre.length) m []) ∧ Fr w w' := by
  refine rv _ ?_ _ _ w _ (uvShort w0 w gv taken n pre aE aU hE hp h0 h9 htk h)
  have hl := uval_lt pre
  have h8 : 128 ^ pre.length ≤ 128 ^ 9 := Nat.pow_le_pow_right (by decide) h9
  have e9 : (128 : Nat) ^ 9 = 9223372036854775808 := by decide
  omega

/-- how a reader of codes ends: nothing is left, a number is cut off, or no more is asked for -/
def Ending3 (n : Nat) (most : Int) (tail : List UInt8) (fin : Int) (extra : Nat) : Prop :=
  ((n : Int) < most ∧ tail = [] ∧ fin = 1 ∧ extra = 0) ∨ ((n : Int) < most ∧ (∀ d ∈ tail, 128 ≤ d.toNat) ∧ 0 < tail.length ∧ tail.length ≤ 9 ∧ fin = 2 ∧ extra = tail.length) ∨ (most = n ∧ fin = 0 ∧ extra = 0)

def numsU (codes : List (List UInt8)) : List Value := nc (codes.map uval)
def numsS (codes : List (List UInt8)) : List Value := ic (codes.map fun c => Lib.unzigzag (uval c))

/-- a reader behind an append to a row of another element type -/
theorem Gv.grow {w0 w w' : World} {gv taken n : Nat} {rest : List UInt8} {o : Obj} {base : Nat} {e : TypeId} {k : Nat} {v : Value} {xs : List Value} (h : Gv w0 w gv taken n rest) (hb : Below w0.heap.size w0 w') (hg : (w.alloc o).grownBy w' v.ownBlock) (hown : (w.alloc o).ownsRow base e 1 v k xs) (h1 : e ≠ 24) (h2 : e ≠ 52) : Gv w0 w' gv taken n rest := by
  obtain ⟨A, c, ps, bss, g1, g2, ⟨g3, g4, g5, g6⟩, g7, g8, g9⟩ := h
  have keep : ∀ (q : Nat) (cs : Array Value) (t : TypeId), w.heap[q]? = some (.cells cs t (0, 0)) → t ≠ e → w'.heap[q]? = some (.cells cs t (0, 0)) := by
    intro q cs t hq hne
    have hlt := (Array.getElem?_eq_some_iff.1 hq).1
    have hq' : (w.alloc o).heap[q]? = some (.cells cs t (0, 0)) := (Below.heap_alloc w o q hlt).trans hq
    refine (hg.block q (by simp; omega) ?_).trans hq'
    intro eq
    rcases hown.2 with ⟨rfl, _⟩ | ⟨g, cap, cur, rfl, _, hh, _⟩
    · simp [Value.ownBlock] at eq
    · simp [Value.ownBlock] at eq
      subst eq
      rw [hq'] at hh
      injection hh with hh
      injection hh with _ hh
      exact hne hh
  refine ⟨A, c, ps, bss, g1, keep _ _ _ g2 (Ne.symm h2), ⟨g3, g4, g5, ?_⟩, g7, g8, hb⟩
  rcases g6 with g6 | ⟨gp, off, cur, r1, r2, r3, r4⟩
  · exact .inl g6
  · exact .inr ⟨gp, off, cur, r1, r2, keep _ _ _ r3 (Ne.symm h1), r4⟩

theorem quiet_end {f : FuncId} {args : Array Value} {w : World} {n : Nat} {v : Value} (h : Calls Tryd.prog f args (w.drewN n) fun e w' => e = .returned v ∧ w.drewN n = w') : Calls Tryd.prog f args (w.drewN n) fun e w'' => e = .returned v ∧ ∃ m, w'' = w.drewN m :=
  h.mono fun _ _ hh => ⟨hh.1, n, hh.2.symm⟩
theorem Errs.drewN {w : World} {aE aU : Addr} (h : Errs w aE aU) (n : Nat) : Errs (w.drewN n) aE aU := ⟨h.e, h.u, h.ne, h.be, h.bu, h.size⟩

theorem one_num (k : IntKind) (z : Int) : ∀ u ∈ [Value.int k z], u.oneCell' = true := by
  intro u hu; rw [List.mem_singleton.1 hu]; rfl
theorem info_i64R : (Tryd.prog.info? 2).map (fun i => (i.zero, i.size, i.bytes)) = some (some (.int .i64 0), 1, 8) := by kernel_rfl

theorem ret3 {a b c a' b' c' : Value} (h1 : a = a') (h2 : b = b') (h3 : c = c') : Ending.returned (.tuple #[a, b, c]) = .returned (.tuple #[a', b', c']) := by rw [h1, h2, h3]
end Go.Proofs.YtllkjlfjoadifaaDoor
