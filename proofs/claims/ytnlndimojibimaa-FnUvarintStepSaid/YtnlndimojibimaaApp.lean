/-
  What is proved here: append of bytes that came in (a nil slice let in) onto a row of the call's own, as a law of the walk. Conditions: the new length is at most 200000000000000.
-/
import Derived.Test.YtnlndimojibimaaBase
namespace Go.Proofs.Ytnlndimojibimaa
open Go.RowKit

section
variable (w : World)

theorem run_app_nil (ty : TypeId) (base : Nat) (v : Value) (n : Nat) (xs : List Value) (hown : w.ownsRow base 5 1 v n xs) (c : Nat) : (Builtin.append_ #[23, 23] ty #[v, .slice none 0 c]).run Try.prog w = .ok v w := by
  obtain ⟨i0, hi, hz0, hz1, hz2⟩ := info_parts info_u8
  rcases hown.2 with ⟨rfl, rfl⟩ | ⟨g, cap, cur, rfl, _, _, hnc, _⟩
  · simp [Builtin.append_, run_underlying Try.underlying23, sizeOf, typeInfo, hi, Builtin.lenOf, Builtin.firstCells]
  · simp [Builtin.append_, run_underlying Try.underlying23, sizeOf, typeInfo, hi, Builtin.lenOf, Builtin.firstCells, hnc, storeCells]

theorem run_app (ty : TypeId) (base : Nat) (v : Value) (n : Nat) (xs : List Value) (hown : w.ownsRow base 5 1 v n xs) (A : Option Addr) (m c : Nat) (news : List Value) (hr : Rd w A news) (hl : news.length = m)
    (h1 : ∀ u ∈ news, u.oneCell' = true) (hb : n + m ≤ 200000000000000) (hbase : base ≤ w.heap.size) :
    ∃ v' w', (Builtin.append_ #[23, 23] ty #[v, .slice A m c]).run Try.prog w = .ok v' w' ∧ w'.ownsRow base 5 1 v' (n + m) (xs ++ news) ∧ w.grownBy w' v.ownBlock := by
  obtain ⟨i0, hi, hz0, hz1, hz2⟩ := info_parts info_u8
  cases A with
  | none =>
    have h0 : news = [] := by
      rcases hr with h | ⟨_, _, h, _⟩
      · exact h
      · cases h
    subst h0
    subst hl
    exact ⟨v, w, run_app_nil w ty base v n xs hown c, by simpa using hown, World.grownBy.refl w _⟩
  | some ad =>
    obtain ⟨v', w', h2, h3, h4, _⟩ := run_append_own_wide (P := Try.prog) w base 23 ty 5 i0 (.int .u8 0) 1 1 Try.underlying23 hi hz0 hz1 hz2 rfl (by decide) v n xs hown ad m c news (by omega)
      (fun j u hu => by
        rcases hr with h | ⟨b, off, h, _, hc⟩
        · subst h; simp at hu
        · injection h with h
          subst h
          rw [addr_add]
          exact hc j u hu) h1 (by unfold maxLen; omega) (by omega) hbase
    exact ⟨v', w', h2, h3, h4⟩

theorem wp_app {o : Oper} {a : Act} {K : Act → World → Prop} {Q : Exit → Act → World → Prop} (s x : Operand)
    (ho : o.op = .call { callee := .builtin .append, args := #[s, x], argTypes := #[23, 23] })
    (base : Nat) (v : Value) (n : Nat) (xs : List Value) (hs : a.eval s = v) (hown : w.ownsRow base 5 1 v n xs)
    (A : Option Addr) (m c : Nat) (news : List Value) (hx : a.eval x = .slice A m c) (hr : Rd w A news) (hl : news.length = m) (h1 : ∀ u ∈ news, u.oneCell' = true)
    (hb : n + m ≤ 200000000000000) (hbase : base ≤ w.heap.size)
    (h : ∀ v' w', w'.ownsRow base 5 1 v' (n + m) (xs ++ news) → w.grownBy w' v.ownBlock → K (a.put o.dst v') w') : o.wp Try.prog a w K Q := by
  obtain ⟨v', w', hr, h2, h3⟩ := run_app w o.type base v n xs hown A m c news hr hl h1 hb hbase
  unfold Oper.wp execOp
  simp only [ho, resolve, invoke, builtin, Sem.run_bind, Sem.run_pure, Result.andThen_ok, List.map_toArray, List.map_cons, List.map_nil, hs, hx, hr]
  exact h v' w' h2 h3

theorem wpList_app {ops : Array Oper} {rest : List Oper} {o : Oper} {a : Act} {Q : Exit → Act → World → Prop} (hgd : o.guard = none) (s x : Operand)
    (ho : o.op = .call { callee := .builtin .append, args := #[s, x], argTypes := #[23, 23] })
    (base : Nat) (v : Value) (n : Nat) (xs : List Value) (hs : a.eval s = v) (hown : w.ownsRow base 5 1 v n xs)
    (A : Option Addr) (m c : Nat) (news : List Value) (hx : a.eval x = .slice A m c) (hr : Rd w A news) (hl : news.length = m) (h1 : ∀ u ∈ news, u.oneCell' = true)
    (hb : n + m ≤ 200000000000000) (hbase : base ≤ w.heap.size)
    (h : ∀ v' w', w'.ownsRow base 5 1 v' (n + m) (xs ++ news) → w.grownBy w' v.ownBlock → wpList Try.prog ops Q rest (a.put o.dst v') w') : wpList Try.prog ops Q (o :: rest) a w :=
  wpList_plain hgd fun _ hK => wp_app w s x ho base v n xs hs hown A m c news hx hr hl h1 hb hbase fun v' w' h2 h3 => hK _ _ (h v' w' h2 h3)
end
end Go.Proofs.Ytnlndimojibimaa
