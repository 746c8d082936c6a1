/-
  What is proved here: append of bytes that came in (a nil slice let in) onto a row of the call's own, as a law of the walk. Conditions: the new length is at most 200000000000000.
-/
import Derived.Test.YtbioeknobmcbiaaBase
import Derived.Deep.RegionLaw
namespace Go.Proofs.Ytbioeknobmcbiaa
open Go.RowKit

/-- the row is where it was, or in a block that was not there -/
def Moved (w : World) (v v' : Value) : Prop := ∀ k, v'.ownBlock = some k → v.ownBlock = some k ∨ w.heap.size ≤ k
theorem Moved.refl (w : World) (v : Value) : Moved w v v := fun _ h => .inl h

section
variable (w : World)

theorem run_app_nil (ty : TypeId) (base : Nat) (v : Value) (n : Nat) (xs : List Value) (hown : w.ownsRow base 5 1 v n xs) (c : Nat) : (Builtin.append_ #[25, 25] ty #[v, .slice none 0 c]).run Try.prog w = .ok v w := by
  obtain ⟨i0, hi, hz0, hz1, hz2⟩ := info_parts info_u8
  rcases hown.2 with ⟨rfl, rfl⟩ | ⟨g, cap, cur, rfl, _, _, hnc, _⟩
  · simp [Builtin.append_, run_underlying Try.underlying25, sizeOf, typeInfo, hi, Builtin.lenOf, Builtin.firstCells]
  · simp [Builtin.append_, run_underlying Try.underlying25, sizeOf, typeInfo, hi, Builtin.lenOf, Builtin.firstCells, hnc, storeCells]

theorem run_app (ty : TypeId) (base : Nat) (v : Value) (n : Nat) (xs : List Value) (hown : w.ownsRow base 5 1 v n xs) (A : Option Addr) (m c : Nat) (news : List Value) (hr : Rd w A news) (hl : news.length = m)
    (h1 : ∀ u ∈ news, u.oneCell' = true) (hb : n + m ≤ 200000000000000) (hbase : base ≤ w.heap.size) :
    ∃ v' w', (Builtin.append_ #[25, 25] ty #[v, .slice A m c]).run Try.prog w = .ok v' w' ∧ w'.ownsRow base 5 1 v' (n + m) (xs ++ news) ∧ w.grownBy w' v.ownBlock ∧ Moved w v v' := by
  obtain ⟨i0, hi, hz0, hz1, hz2⟩ := info_parts info_u8
  cases A with
  | none =>
    have h0 : news = [] := by
      rcases hr with h | ⟨_, _, h, _⟩
      · exact h
      · cases h
    subst h0
    subst hl
    exact ⟨v, w, run_app_nil w ty base v n xs hown c, by simpa using hown, World.grownBy.refl w _, Moved.refl w v⟩
  | some ad =>
    have hnews : ∀ j u, news[j]? = some u → w.cell? (ad.add j) = some u := fun j u hu => by
      rcases hr with h | ⟨b, off, h, _, hc⟩
      · subst h; simp at hu
      · injection h with h
        subst h
        rw [addr_add]
        exact hc j u hu
    obtain ⟨v', w', h2, h3, h4, _⟩ := run_append_own_wide (P := Try.prog) w base 25 ty 5 i0 (.int .u8 0) 1 1 Try.underlying25 hi hz0 hz1 hz2 rfl (by decide) v n xs hown ad m c news (by omega) hnews h1 (by unfold maxLen; omega) (by omega) hbase
    refine ⟨v', w', h2, h3, h4, ?_⟩
    have hlm : news.length = m * i0.size := by rw [hz1]; omega
    rcases hown.2 with ⟨rfl, rfl⟩ | ⟨g, cap, cur, rfl, hbg, hg, hnc, hcm, hcs, htake⟩
    · by_cases hm : m = 0
      · subst hm
        have hn0 : news = [] := List.eq_nil_of_length_eq_zero (by omega)
        subst hn0
        have e : (Builtin.append_ #[25, 25] ty #[.slice none 0 0, .slice (some ad) 0 c]).run Try.prog w = .ok (.slice none 0 0) w := by
          simp [Builtin.append_, run_underlying Try.underlying25, sizeOf, typeInfo, hi, Builtin.lenOf, Builtin.firstCells, loadCells, loadCellsFrom]
        rw [e] at h2
        injection h2 with h2 _
        subst h2
        exact Moved.refl _ _
      · have e := run_append_nil (P := Try.prog) w 25 ty 5 i0 (.int .u8 0) Try.underlying25 hi hz0 ad m c news hlm hnews (by omega) (by omega) (by rw [hz2]; omega)
        rw [e] at h2
        injection h2 with h2 _
        subst h2
        intro k hk
        simp [Value.ownBlock] at hk
        exact .inr (by omega)
    · by_cases hroom : n + m ≤ cap
      · have e := run_append_room (P := Try.prog) w 25 ty 5 i0 Try.underlying25 hi g n cap cur hg ad m c news hlm hnews h1 hroom (by rw [hz1]; omega)
        rw [e] at h2
        injection h2 with h2 _
        subst h2
        intro k hk
        exact .inl (by simpa [Value.ownBlock] using hk)
      · have holds : ∀ j u, xs[j]? = some u → w.cell? ((⟨g, 0, none⟩ : Addr).add j) = some u := hown.cells (g := g) rfl
        have e := run_append_grow (P := Try.prog) w 25 ty 5 i0 (.int .u8 0) Try.underlying25 hi hz0 ⟨g, 0, none⟩ n cap xs (by rw [hz1]; exact hown.1) holds ad m c news hlm hnews (by omega) (by omega) (by rw [hz2]; exact growslice_fits_wide (by omega) (by omega))
        rw [e] at h2
        injection h2 with h2 _
        subst h2
        intro k hk
        simp [Value.ownBlock] at hk
        exact .inr (by omega)

theorem wp_app {o : Oper} {a : Act} {K : Act → World → Prop} {Q : Exit → Act → World → Prop} (s x : Operand)
    (ho : o.op = .call { callee := .builtin .append, args := #[s, x], argTypes := #[25, 25] })
    (base : Nat) (v : Value) (n : Nat) (xs : List Value) (hs : a.eval s = v) (hown : w.ownsRow base 5 1 v n xs)
    (A : Option Addr) (m c : Nat) (news : List Value) (hx : a.eval x = .slice A m c) (hr : Rd w A news) (hl : news.length = m) (h1 : ∀ u ∈ news, u.oneCell' = true)
    (hb : n + m ≤ 200000000000000) (hbase : base ≤ w.heap.size)
    (h : ∀ v' w', w'.ownsRow base 5 1 v' (n + m) (xs ++ news) → w.grownBy w' v.ownBlock → Moved w v v' → K (a.put o.dst v') w') : o.wp Try.prog a w K Q := by
  obtain ⟨v', w', hr, h2, h3, h4⟩ := run_app w o.type base v n xs hown A m c news hr hl h1 hb hbase
  unfold Oper.wp execOp
  simp only [ho, resolve, invoke, builtin, Sem.run_bind, Sem.run_pure, Result.andThen_ok, List.map_toArray, List.map_cons, List.map_nil, hs, hx, hr]
  exact h v' w' h2 h3 h4

theorem wpList_app {ops : Array Oper} {rest : List Oper} {o : Oper} {a : Act} {Q : Exit → Act → World → Prop} (hgd : o.guard = none) (s x : Operand)
    (ho : o.op = .call { callee := .builtin .append, args := #[s, x], argTypes := #[25, 25] })
    (base : Nat) (v : Value) (n : Nat) (xs : List Value) (hs : a.eval s = v) (hown : w.ownsRow base 5 1 v n xs)
    (A : Option Addr) (m c : Nat) (news : List Value) (hx : a.eval x = .slice A m c) (hr : Rd w A news) (hl : news.length = m) (h1 : ∀ u ∈ news, u.oneCell' = true)
    (hb : n + m ≤ 200000000000000) (hbase : base ≤ w.heap.size)
    (h : ∀ v' w', w'.ownsRow base 5 1 v' (n + m) (xs ++ news) → w.grownBy w' v.ownBlock → Moved w v v' → wpList Try.prog ops Q rest (a.put o.dst v') w') : wpList Try.prog ops Q (o :: rest) a w :=
  wpList_plain hgd fun _ hK => wp_app w s x ho base v n xs hs hown A m c news hx hr hl h1 hb hbase fun v' w' h2 h3 h4 => hK _ _ (h v' w' h2 h3 h4)
end

/-- the same as one step of a region that draws its order -/
theorem step_app {ops : Array Oper} {o : Oper} {a : Act} {w : World} {K : Act → World → Prop} {Q : Exit → Act → World → Prop} {E : Prop} (hg : o.guard = none) (s x : Operand)
    (ho : o.op = .call { callee := .builtin .append, args := #[s, x], argTypes := #[25, 25] })
    (base : Nat) (v : Value) (n : Nat) (xs : List Value) (hs : a.eval s = v) (hown : w.ownsRow base 5 1 v n xs)
    (A : Option Addr) (m c : Nat) (news : List Value) (hx : a.eval x = .slice A m c) (hr : Rd w A news) (hl : news.length = m) (h1 : ∀ u ∈ news, u.oneCell' = true)
    (hb : n + m ≤ 200000000000000) (hbase : base ≤ w.heap.size)
    (h : ∀ v' w', w'.ownsRow base 5 1 v' (n + m) (xs ++ news) → w.grownBy w' v.ownBlock → Moved w v v' → K (a.put o.dst v') w') : if Region.wanted o (yielded ops a.tmps) = true then Oper.wp Try.prog o a w K Q else E := by
  have hw : Region.wanted o (yielded ops a.tmps) = true := by simp [Region.wanted, hg]
  rw [if_pos hw]
  exact wp_app w s x ho base v n xs hs hown A m c news hx hr hl h1 hb hbase h
end Go.Proofs.Ytbioeknobmcbiaa
