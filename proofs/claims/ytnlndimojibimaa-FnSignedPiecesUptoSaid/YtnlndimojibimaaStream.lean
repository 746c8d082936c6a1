/-
  What is proved here: plain facts on a stream of varints whose bytes come in pieces; append of bytes onto a slice in the midst of a row of the call's own. Conditions: the new length is at most 200000000000000.
-/
import Derived.Test.YtnlndimojibimaaBase
namespace Go.Proofs.Ytnlndimojibimaa
open Go.RowKit Go.Lib

theorem drop_at {zs : List Nat} {k x : Nat} (hx : zs[k]? = some x) : zs.drop k = x :: zs.drop (k + 1) := by
  rw [List.drop_eq_getElem?_toList_append, hx]; rfl

/-- What the next bytes hold: a whole number, or too few bytes of one. -/
theorem stream_step {zs : List Nat} {k : Nat} {B F : List UInt8} (hz : ∀ x ∈ zs, x < 18446744073709551616) (h : B ++ F = encL (zs.drop k)) (hB : 0 < B.length) :
    ∃ x, zs[k]? = some x ∧ ((∃ B', B = uvarint x ++ B' ∧ B' ++ F = encL (zs.drop (k + 1)) ∧ uvarintDec B = (x, ((uvarint x).length : Int))) ∨
      (B.length < (uvarint x).length ∧ (∀ c ∈ B, 128 ≤ c.toNat) ∧ uvarintDec B = (0, 0))) := by
  have hk : k < zs.length := by
    rcases Nat.lt_or_ge k zs.length with h1 | h1
    · exact h1
    · rw [List.drop_of_length_le h1, encL_nil] at h
      have := congrArg List.length h
      rw [List.length_append, List.length_nil] at this
      omega
  have hx : zs[k]? = some zs[k] := List.getElem?_eq_getElem hk
  have hx64 := hz zs[k] (List.getElem_mem _)
  refine ⟨zs[k], hx, ?_⟩
  rw [drop_at hx, encL_cons] at h
  by_cases hl : (uvarint zs[k]).length ≤ B.length
  · left
    have h1 : (B ++ F).take (uvarint zs[k]).length = uvarint zs[k] := by rw [h]; exact List.take_left
    have h2 : (B ++ F).drop (uvarint zs[k]).length = encL (zs.drop (k + 1)) := by rw [h]; exact List.drop_left
    rw [List.take_append_of_le_length hl] at h1
    rw [List.drop_append_of_le_length hl] at h2
    have hB' : B = uvarint zs[k] ++ B.drop (uvarint zs[k]).length := by
      have e := (List.take_append_drop (uvarint zs[k]).length B).symm
      rw [h1] at e
      exact e
    refine ⟨B.drop (uvarint zs[k]).length, hB', h2, ?_⟩
    rw [hB']
    exact dec_enc hx64 _
  · right
    obtain ⟨pre, b, he, hp, hb, h9, h1, hv⟩ := uvarint_parts hx64
    have hlen : (uvarint zs[k]).length = pre.length + 1 := by rw [he, List.length_append, List.length_singleton]
    have h2 : B = pre.take B.length := by
      have h3 : (B ++ F).take B.length = (uvarint zs[k] ++ encL (zs.drop (k + 1))).take B.length := by rw [h]
      rw [List.take_left, List.take_append_of_le_length (by omega), he, List.take_append_of_le_length (by omega)] at h3
      exact h3
    have hall : ∀ c ∈ B, 128 ≤ c.toNat := by
      intro c hc
      rw [h2] at hc
      exact hp c (List.mem_of_mem_take hc)
    exact ⟨by omega, hall, dec_short hall (by omega)⟩

/-- what is so whenever the next piece is asked for -/
def Wait (zs : List Nat) (k : Nat) (B F : List UInt8) : Prop :=
  B ++ F = encL (zs.drop k) ∧ k ≤ zs.length ∧ (B.length = 0 ∨ ∃ x, zs[k]? = some x ∧ B.length < (uvarint x).length)

theorem wait_end {zs : List Nat} {k : Nat} {B : List UInt8} (h : Wait zs k B []) : B.length = 0 ∧ k = zs.length := by
  obtain ⟨h1, hk, h2⟩ := h
  rw [List.append_nil] at h1
  have hB : B.length = 0 := by
    rcases h2 with h2 | ⟨x, hx, hl⟩
    · exact h2
    · rw [h1, drop_at hx, encL_cons, List.length_append] at hl
      omega
  refine ⟨hB, ?_⟩
  have h3 := encL_length_ge (zs.drop k)
  rw [← h1, List.length_drop] at h3
  omega

/-- bytes in the midst of a row of the call's own -/
def Mid (w : World) (base : Nat) (v : Value) (bs : List UInt8) : Prop :=
  (v = .slice none 0 0 ∧ bs = []) ∨
  ∃ g off cap cur, v = .slice (some ⟨g, off, none⟩) bs.length cap ∧ base ≤ g ∧ w.heap[g]? = some (.cells cur 5 (0, 0)) ∧ bs.length ≤ cap ∧ cap ≤ maxLen ∧ off + cap ≤ cur.size ∧ (cur.toList.drop off).take bs.length = bc bs

theorem Mid.rd {w : World} {base : Nat} {v : Value} {bs : List UInt8} (h : Mid w base v bs) : ∃ A c, v = .slice A bs.length c ∧ bs.length ≤ c ∧ c ≤ maxLen ∧ Rd w A (bc bs) := by
  rcases h with ⟨rfl, rfl⟩ | ⟨g, off, cap, cur, rfl, _, hh, hc, hm, _, ht⟩
  · exact ⟨none, 0, rfl, Nat.zero_le _, Nat.zero_le _, .inl rfl⟩
  · refine ⟨_, cap, rfl, hc, hm, .inr ⟨g, off, rfl, (Array.getElem?_eq_some_iff.1 hh).1, fun j u hu => ?_⟩⟩
    rw [cell_of_row w g (off + j) cur 5 (0, 0) hh]
    rw [← ht, List.getElem?_take] at hu
    split at hu
    · rw [List.getElem?_drop] at hu
      simpa using hu
    · cases hu

theorem Mid.below {w w' : World} {base : Nat} {v : Value} {bs : List UInt8} (h : Mid w base v bs) (hb : Below w.heap.size w w') : Mid w' base v bs := by
  rcases h with h | ⟨g, off, cap, cur, hv, hg, hh, hr⟩
  · exact .inl h
  · exact .inr ⟨g, off, cap, cur, hv, hg, by rw [hb.block g (Array.getElem?_eq_some_iff.1 hh).1]; exact hh, hr⟩

theorem Mid.kept {w w' : World} {base : Nat} {v : Value} {bs : List UInt8} {row : Option Nat} (h : Mid w base v bs) (hg : w.grownBy w' row) (hne : v.ownBlock = none ∨ v.ownBlock ≠ row) : Mid w' base v bs := by
  rcases h with h | ⟨g, off, cap, cur, hv, hb, hh, hr⟩
  · exact .inl h
  · refine .inr ⟨g, off, cap, cur, hv, hb, ?_, hr⟩
    subst hv
    rw [hg.block g (Array.getElem?_eq_some_iff.1 hh).1 (by simpa [Value.ownBlock] using hne)]
    exact hh

theorem Mid.lt {w : World} {base : Nat} {v : Value} {bs : List UInt8} (h : Mid w base v bs) : ∀ k, v.ownBlock = some k → base ≤ k ∧ k < w.heap.size := by
  intro k hk
  rcases h with ⟨rfl, _⟩ | ⟨g, off, cap, cur, rfl, hb, hh, _⟩
  · simp [Value.ownBlock] at hk
  · simp [Value.ownBlock] at hk
    subst hk
    exact ⟨hb, (Array.getElem?_eq_some_iff.1 hh).1⟩

theorem Mid.of_own {w : World} {base : Nat} {v : Value} {bs : List UInt8} (h : w.ownsRow base 5 1 v bs.length (bc bs)) : Mid w base v bs := by
  rcases h.2 with ⟨rfl, h0⟩ | ⟨g, cap, cur, rfl, hb, hh, hc, hm, hs, ht⟩
  · exact .inl ⟨rfl, List.eq_nil_of_length_eq_zero h0⟩
  · exact .inr ⟨g, 0, cap, cur, rfl, hb, hh, hc, hm, by omega, by rw [List.drop_zero]; simpa using ht⟩

section
variable (w : World)
theorem run_mid (ty : TypeId) (base : Nat) (v : Value) (bs : List UInt8) (hown : Mid w base v bs) (A : Option Addr) (c : Nat) (new : List UInt8) (hr : Rd w A (bc new)) (hb : bs.length + new.length ≤ 200000000000000) (hbase : base ≤ w.heap.size) :
    ∃ v' w', (Builtin.append_ #[23, 23] ty #[v, .slice A new.length c]).run Try.prog w = .ok v' w' ∧ Mid w' base v' (bs ++ new) ∧ w.grownBy w' v.ownBlock := by
  obtain ⟨i0, hi, hz0, hz1, hz2⟩ := info_parts info_u8
  have hlb : (bc new).length = new.length := bc_length new
  have h1 : ∀ u ∈ bc new, u.oneCell' = true := by
    intro u hu
    obtain ⟨b, _, rfl⟩ := List.mem_map.1 hu
    rfl
  cases A with
  | none =>
    have h0 : new = [] := by
      rcases hr with h | ⟨_, _, h, _⟩
      · simpa [bc, Lib.byteCells] using h
      · cases h
    subst h0
    refine ⟨v, w, ?_, by simpa using hown, World.grownBy.refl w _⟩
    rcases hown with ⟨rfl, _⟩ | ⟨g, off, cap, cur, rfl, _, _, hnc, _⟩
    · simp [Builtin.append_, run_underlying Try.underlying23, sizeOf, typeInfo, hi, Builtin.lenOf, Builtin.firstCells]
    · simp [Builtin.append_, run_underlying Try.underlying23, sizeOf, typeInfo, hi, Builtin.lenOf, Builtin.firstCells, hnc, storeCells]
  | some a =>
    have hcells : ∀ j u, (bc new)[j]? = some u → w.cell? (a.add j) = some u := fun j u hu => by
      rcases hr with h | ⟨b, off, h, _, hc⟩
      · rw [h] at hu; simp at hu
      · injection h with h
        subst h
        rw [addr_add]
        exact hc j u hu
    rcases hown with ⟨rfl, rfl⟩ | ⟨g, off, cap, cur, rfl, hbg, hh, hnc, hcm, hsz, ht⟩
    · obtain ⟨v', w', h2, h3, h4, h5⟩ := run_append_own_wide (P := Try.prog) w base 23 ty 5 i0 (.int .u8 0) 1 1 Try.underlying23 hi hz0 hz1 hz2 rfl (by decide) (.slice none 0 0) 0 [] (World.ownsRow_nil _ _ _ _) a new.length c (bc new) (by omega) hcells h1 (by unfold maxLen; omega) (by omega) hbase
      exact ⟨v', w', h2, Mid.of_own (by simpa using h3), h4⟩
    · by_cases hroom : bs.length + new.length ≤ cap
      · have hf := run_firstCells_some (P := Try.prog) w i0.size new.length a new.length c (bc new) (by rw [hz1, hlb]; omega) hcells
        have hst := run_storeCells_at Try.prog g (off + bs.length) 5 (bc new) 0 cur w hh (by rw [hlb]; omega) h1
        simp only [Nat.add_zero] at hst
        have hadd : (⟨g, off, none⟩ : Addr).add (bs.length * i0.size) = ⟨g, off + bs.length, none⟩ := by rw [hz1, Nat.mul_one, addr_add]
        refine ⟨.slice (some ⟨g, off, none⟩) (bs.length + new.length) cap, w.setRow g (cur.toList.take (off + bs.length) ++ bc new ++ cur.toList.drop (off + bs.length + (bc new).length)).toArray, ?_, ?_, ?_⟩
        · simp [Builtin.append_, run_underlying Try.underlying23, sizeOf, typeInfo, hi, Builtin.lenOf, hroom, hf, hadd, hst]
        · refine .inr ⟨g, off, cap, _, by rw [List.length_append], hbg, setRow_heap w g cur _ 5 _ hh, by rw [List.length_append]; exact hroom, hcm, ?_, ?_⟩
          · simp only [List.size_toArray, List.length_append, List.length_take, List.length_drop, Array.length_toList, hlb]
            omega
          · have hl1 : (cur.toList.take (off + bs.length)).length = off + bs.length := by rw [List.length_take, show cur.toList.length = cur.size from Array.length_toList]; exact Nat.min_eq_left (by omega)
            have e1 : (cur.toList.take (off + bs.length)).drop off = bc bs := by
              rw [List.drop_take, Nat.add_sub_cancel_left]
              exact ht
            rw [List.append_assoc, List.drop_append_of_le_length (by omega), e1, List.length_append, bc_append, ← List.append_assoc]
            have hl2 : (bc bs ++ bc new).length = bs.length + new.length := by rw [List.length_append, hlb, bc_length]
            rw [← hl2]
            exact List.take_left
        · exact ⟨rfl, rfl, rfl, by simp, fun k _ hk => setRow_other w g k _ (fun e => hk (by simp [Value.ownBlock, e]))⟩
      · have holds : ∀ j u, (bc bs)[j]? = some u → w.cell? ((⟨g, off, none⟩ : Addr).add j) = some u := by
          intro j u hu
          obtain ⟨b', off', hA, _, hc⟩ := (Mid.rd (.inr ⟨g, off, cap, cur, rfl, hbg, hh, hnc, hcm, hsz, ht⟩ : Mid w base (.slice (some ⟨g, off, none⟩) bs.length cap) bs)).elim fun A h => h.elim fun c h => (by
            obtain ⟨e, _, _, hrd⟩ := h
            injection e with e _
            subst e
            exact hrd.at_ hu : ∃ b' off', (some ⟨g, off, none⟩ : Option Addr) = some ⟨b', off', none⟩ ∧ b' < w.heap.size ∧ w.cell? ⟨b', off' + j, none⟩ = some u)
          injection hA with hA
          injection hA with e1 e2
          subst e1 e2
          rw [addr_add]
          exact hc
        have hr2 := run_append_grow (P := Try.prog) w 23 ty 5 i0 (.int .u8 0) Try.underlying23 hi hz0 ⟨g, off, none⟩ bs.length cap (bc bs) (by rw [hz1, bc_length]; omega) holds a new.length c (bc new) (by rw [hz1, hlb]; omega) hcells (by omega) (by omega)
          (by rw [hz2]; exact growslice_fits_wide (by omega) (by omega))
        refine ⟨_, _, hr2, ?_, ⟨rfl, rfl, rfl, by simp, fun k hk _ => Below.heap_alloc w.drew _ k hk⟩⟩
        have hge := grownCap_ge w (bs.length + new.length) cap 5
        have hcm2 := grownCap_le_maxLen w (bs.length + new.length) cap 5 (by unfold maxLen; omega)
        refine .inr ⟨w.heap.size, 0, _, _, by rw [List.length_append], hbase, heap_alloc_new w.drew _, by rw [List.length_append]; exact hge, hcm2, ?_, ?_⟩
        · have hzc : (Value.int .u8 0).cells.size = 1 := rfl
          simp only [Array.size_append, List.size_toArray, size_zeroCells, hzc, hlb, bc_length]
          omega
        · rw [List.drop_zero]
          simp only [Array.toList_append]
          rw [List.length_append, bc_append]
          have hl2 : (bc bs ++ bc new).length = bs.length + new.length := by rw [List.length_append, hlb, bc_length]
          rw [← hl2]
          exact List.take_left

theorem wpList_mid {ops : Array Oper} {rest : List Oper} {o : Oper} {a : Act} {Q : Exit → Act → World → Prop} (hgd : o.guard = none) (s x : Operand)
    (ho : o.op = .call { callee := .builtin .append, args := #[s, x], argTypes := #[23, 23] })
    (base : Nat) (v : Value) (bs : List UInt8) (hs : a.eval s = v) (hown : Mid w base v bs)
    (A : Option Addr) (c : Nat) (new : List UInt8) (hx : a.eval x = .slice A new.length c) (hr : Rd w A (bc new))
    (hb : bs.length + new.length ≤ 200000000000000) (hbase : base ≤ w.heap.size)
    (h : ∀ v' w', Mid w' base v' (bs ++ new) → w.grownBy w' v.ownBlock → wpList Try.prog ops Q rest (a.put o.dst v') w') : wpList Try.prog ops Q (o :: rest) a w := by
  refine wpList_plain hgd fun _ hK => ?_
  obtain ⟨v', w', hr, h2, h3⟩ := run_mid w o.type base v bs hown A c new hr hb hbase
  unfold Oper.wp execOp
  simp only [ho, resolve, invoke, builtin, Sem.run_bind, Sem.run_pure, Result.andThen_ok, List.map_toArray, List.map_cons, List.map_nil, hs, hx, hr]
  exact hK _ _ (h v' w' h2 h3)
end
end Go.Proofs.Ytnlndimojibimaa
