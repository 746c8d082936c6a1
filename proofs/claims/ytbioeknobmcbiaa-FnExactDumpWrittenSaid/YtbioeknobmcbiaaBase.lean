/-
  What is proved here: words for memory that the walks of this seat use (a slice that reads as a list of cells, nil let in; a row of the call's own behind a call that keeps what was there), and the types' rows of the table. Conditions: each lemma says its own.
-/
import Derived.Test.YtbioeknobmcbiaaProg
import Derived.WalkKit
import Derived.WalkLawsBesides
import Derived.WalkSpells
import Derived.OwnWalk
import Derived.Lib.Hide
import Derived.Lib.Slices
import Derived.Lib.UnsafeStr
import Derived.Deep.DeepAppendWide
import Derived.Deep.DeepMust
import Derived.Outline
namespace Go.Proofs.Ytbioeknobmcbiaa
open Go.RowKit

/-- The slice at A reads as the cells xs (nothing is asked where there are none). -/
def Rd (w : World) (A : Option Addr) (xs : List Value) : Prop :=
  xs = [] ∨ ∃ b off, A = some ⟨b, off, none⟩ ∧ b < w.heap.size ∧ ∀ j u, xs[j]? = some u → w.cell? ⟨b, off + j, none⟩ = some u

def nc (zs : List Nat) : List Value := zs.map fun (x : Nat) => Value.int .u64 (x : Int)
def ic (zs : List Int) : List Value := zs.map fun (x : Int) => Value.int .i64 x
abbrev bc (bs : List UInt8) : List Value := Lib.byteCells bs

theorem nc_length (zs : List Nat) : (nc zs).length = zs.length := by simp [nc]
theorem ic_length (zs : List Int) : (ic zs).length = zs.length := by simp [ic]
theorem bc_length (bs : List UInt8) : (bc bs).length = bs.length := by simp [bc, Lib.byteCells]
theorem bc_append (a b : List UInt8) : bc (a ++ b) = bc a ++ bc b := by simp [bc, Lib.byteCells]

theorem addr_add (b off k : Nat) : (⟨b, off, none⟩ : Addr).add k = ⟨b, off + k, none⟩ := by
  unfold Addr.add; split <;> simp_all

theorem Rd.at_ {w : World} {A : Option Addr} {xs : List Value} {k : Nat} {u : Value} (h : Rd w A xs) (hk : xs[k]? = some u) : ∃ b off, A = some ⟨b, off, none⟩ ∧ b < w.heap.size ∧ w.cell? ⟨b, off + k, none⟩ = some u := by
  rcases h with rfl | ⟨b, off, hA, hb, hc⟩
  · simp at hk
  · exact ⟨b, off, hA, hb, hc k u hk⟩

theorem Rd.nil {w : World} {A : Option Addr} : Rd w A [] := .inl rfl

theorem Rd.below {w w' : World} {A : Option Addr} {xs : List Value} (h : Rd w A xs) (hb : Below w.heap.size w w') : Rd w' A xs := by
  rcases h with rfl | ⟨b, off, hA, hlt, hc⟩
  · exact .inl rfl
  · exact .inr ⟨b, off, hA, Nat.lt_of_lt_of_le hlt hb.size, fun j u hu => (hb.cell (p := ⟨b, off + j, none⟩) hlt).trans (hc j u hu)⟩

theorem own_mono {w : World} {base base' : Nat} {e : TypeId} {size n : Nat} {v : Value} {xs : List Value} (h : w.ownsRow base e size v n xs) (hb : base' ≤ base) : w.ownsRow base' e size v n xs := by
  refine ⟨h.1, ?_⟩
  rcases h.2 with h | ⟨g, cap, cur, hv, hg, hr⟩
  · exact .inl h
  · exact .inr ⟨g, cap, cur, hv, by omega, hr⟩

theorem own_below {w w' : World} {base : Nat} {e : TypeId} {size n : Nat} {v : Value} {xs : List Value} (h : w.ownsRow base e size v n xs) (hb : Below w.heap.size w w') : w'.ownsRow base e size v n xs := by
  refine ⟨h.1, ?_⟩
  rcases h.2 with h | ⟨g, cap, cur, hv, hg, hh, hr⟩
  · exact .inl h
  · exact .inr ⟨g, cap, cur, hv, hg, by rw [hb.block g (Array.getElem?_eq_some_iff.1 hh).1]; exact hh, hr⟩

/-- what an owned row is: a slice value, and how it reads -/
theorem own_form {w : World} {base : Nat} {e : TypeId} {n : Nat} {v : Value} {xs : List Value} (h : w.ownsRow base e 1 v n xs) :
    ∃ A c, v = .slice A n c ∧ n ≤ c ∧ c ≤ maxLen ∧ n = xs.length ∧ Rd w A xs := by
  have hl : n = xs.length := by have := h.1; omega
  rcases h.2 with ⟨rfl, rfl⟩ | ⟨g, cap, cur, rfl, _, hh, hnc, hcm, hcs, htk⟩
  · exact ⟨none, 0, rfl, Nat.le_refl _, Nat.zero_le _, hl, .inl (List.eq_nil_of_length_eq_zero hl.symm)⟩
  · refine ⟨_, cap, rfl, hnc, hcm, hl, .inr ⟨g, 0, rfl, (Array.getElem?_eq_some_iff.1 hh).1, fun j u hu => ?_⟩⟩
    have := h.cells (g := g) rfl j u hu
    rwa [addr_add] at this

theorem own_rd {w : World} {base : Nat} {e : TypeId} {n : Nat} {v : Value} {xs : List Value} (h : w.ownsRow base e 1 v n xs) :
    ∃ A c, v = .slice A n c ∧ n ≤ c ∧ c ≤ maxLen ∧ Rd w A xs := by
  obtain ⟨A, c, hv, hn, hc, _, hr⟩ := own_form h
  exact ⟨A, c, hv, hn, hc, hr⟩

theorem below_own {B : Nat} {a w w' : World} {e : TypeId} {size n : Nat} {v : Value} {xs : List Value} (h : Below B a w) (hown : w.ownsRow B e size v n xs) (hB : B ≤ w.heap.size) (hg : w.grownBy w' v.ownBlock) : Below B a w' :=
  h.grown hg hB fun k hk => (hown.lt k hk).1

theorem info_u8 : (Try.prog.info? 5).map (fun i => (i.zero, i.size, i.bytes)) = some (some (.int .u8 0), 1, 1) := by kernel_rfl

theorem cell_one {w : World} {o : Value} {e : TypeId} : ∀ j u, [o][j]? = some u → (w.alloc (.cells #[o] e)).cell? ((⟨w.heap.size, 0, none⟩ : Addr).add j) = some u := by
  intro j u hj
  match j, hj with
  | 0, hj => simp at hj; subst hj; simp [Addr.add]

theorem nc_at {zs : List Nat} {k : Nat} (h : k < zs.length) : ∃ x, zs[k]? = some x ∧ (nc zs)[k]? = some (.int .u64 (x : Int)) :=
  ⟨zs[k], List.getElem?_eq_getElem h, by simp [nc, List.getElem?_eq_getElem h]⟩

theorem take_snoc {α : Type} {zs : List α} {k : Nat} {x : α} (h : zs[k]? = some x) : zs.take (k + 1) = zs.take k ++ [x] := by
  rw [List.take_add_one, h]; rfl

theorem mem_of_at {α : Type} {zs : List α} {k : Nat} {x : α} (h : zs[k]? = some x) : x ∈ zs := List.mem_of_getElem? h


end Go.Proofs.Ytbioeknobmcbiaa
