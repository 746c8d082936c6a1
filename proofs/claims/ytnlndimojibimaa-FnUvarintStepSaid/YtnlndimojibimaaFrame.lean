/-
  What is proved here: how the arguments of a law are opened (a slice of numbers that came in reads as a list), and what the two bounds on their size give. Conditions: each lemma says its own.
-/
import Derived.Test.YtnlndimojibimaaRows
import Derived.Test.YtnlndimojibimaaBase
import Derived.ProofKit
import Derived.OpenShut
import Derived.ShutString
import Derived.ChangeOld
import Derived.Below
import Derived.JoinedCond
import Derived.SizedLaws
namespace Go.Proofs.Ytnlndimojibimaa
open Go.ChangeShapes Go.WideShapes Go.ChangeAt Go.RowKit

theorem own : ownKnob Try.prog.godebug = none := by kernel_rfl
theorem laidOut : laidOutB Try.prog = true := by kernel_rfl

section
variable {H : Type} {enc : TypeId × Value → H} {W : World}

/-- A slice of integers that came in. -/
theorem open_row {t e : TypeId} {k : IntKind} {a : Option Addr} {len cap : Nat} {d : DataW H} {p : List MemPlace} (ht : Try.prog.underlying t = some (.slice e)) (he : Try.prog.underlying e = some (.int k)) (hc : Try.prog.cellsOf e = 1)
    (h : DataW.Trod enc Try.prog W 0 (fun _ => true) true t (.slice a len cap) d p) :
    ∃ zs : List Int, zs.length = len ∧ Rd W a (zs.map (Value.int k)) ∧ (∀ z ∈ zs, (Lit.int k z).wf = true) ∧ (len = 0 ∨ ∃ el sp, d = .slice el sp ∧ el.length = len) ∧ (∀ x ∈ p, x.block < W.heap.size) := by
  have lt : ∀ x ∈ p, x.block < W.heap.size := by obtain ⟨m, hm⟩ := h; exact DataW.trod_lt m _ _ _ hm
  obtain ⟨fuel, hf⟩ := h
  rcases open_ints ht he hc hf with ⟨hcs, _⟩ | ⟨x, l, c, zs, hcs, _, hl, hm, hz, hx, hcell, hwz⟩
  · simp [Value.cells] at hcs
    obtain ⟨rfl, rfl, rfl⟩ := hcs
    exact ⟨[], rfl, .inl rfl, by simp, .inl rfl, lt⟩
  · simp [Value.cells] at hcs
    obtain ⟨rfl, rfl, rfl⟩ := hcs
    simp only [if_true] at hz
    have hd : d = .slice (lits k (zs.take len)) (lits k (zs.drop len)) := congrArg Prod.fst hx
    refine ⟨zs.take len, by rw [List.length_take]; omega, ?_, fun z hzm => hwz z (List.mem_of_mem_take hzm), .inr ⟨_, _, hd, by simp [lits]; omega⟩, lt⟩
    by_cases h0 : len = 0
    · subst h0; exact .inl (by simp)
    · obtain ⟨b, off, spot⟩ := x
      have hc0 := hcell 0 (by omega)
      have hspot : spot = none := by simpa [Addr.add] using World.cell?_spot hc0
      subst hspot
      refine .inr ⟨b, off, rfl, World.block_lt_of_cell? W ⟨b, off, none⟩ (by simpa [Addr.add] using hc0), fun j u hu => ?_⟩
      rw [List.getElem?_map] at hu
      rcases hj : (zs.take len)[j]? with _ | z
      · rw [hj] at hu; cases hu
      · rw [hj] at hu
        simp only [Option.map_some, Option.some.injEq] at hu
        subst hu
        have hjl : j < len ∧ zs[j]? = some z := by
          rw [List.getElem?_take] at hj
          split at hj
          · exact ⟨by assumption, hj⟩
          · cases hj
        have := hcell j (by omega)
        rw [addr_add] at this
        rw [this, List.getD_eq_getElem?_getD, hjl.2]; rfl

theorem as_u64 {a : Option Addr} {zs : List Int} (hr : Rd W a (zs.map (Value.int .u64))) (hw : ∀ z ∈ zs, (Lit.int .u64 z).wf = true) : ∃ ns : List Nat, ns.length = zs.length ∧ Rd W a (nc ns) ∧ ∀ x ∈ ns, x < 18446744073709551616 := by
  have hb : ∀ z ∈ zs, 0 ≤ z ∧ z ≤ 18446744073709551615 := fun z hz => by simpa [Lit.wf, IntKind.min, IntKind.max, IntKind.signed, IntKind.bits] using hw z hz
  refine ⟨zs.map Int.toNat, by simp, ?_, ?_⟩
  · have e : nc (zs.map Int.toNat) = zs.map (Value.int .u64) := by
      unfold nc
      rw [List.map_map]
      refine List.map_congr_left fun z hz => ?_
      have := hb z hz
      show Value.int .u64 ((z.toNat : Nat) : Int) = _
      rw [Int.toNat_of_nonneg this.1]
    rw [e]; exact hr
  · intro x hx
    obtain ⟨z, hz, rfl⟩ := List.mem_map.1 hx
    have := hb z hz
    omega

theorem as_u8 {a : Option Addr} {zs : List Int} (hr : Rd W a (zs.map (Value.int .u8))) (hw : ∀ z ∈ zs, (Lit.int .u8 z).wf = true) : ∃ bs : List UInt8, bs.length = zs.length ∧ Rd W a (bc bs) := by
  have hb : ∀ z ∈ zs, 0 ≤ z ∧ z ≤ 255 := fun z hz => by simpa [Lit.wf, IntKind.min, IntKind.max, IntKind.signed, IntKind.bits] using hw z hz
  refine ⟨zs.map fun z => z.toNat.toUInt8, by simp, ?_⟩
  have e : bc (zs.map fun z => z.toNat.toUInt8) = zs.map (Value.int .u8) := by
    unfold bc Lib.byteCells
    rw [List.map_map]
    refine List.map_congr_left fun z hz => ?_
    have := hb z hz
    show Value.int .u8 ((z.toNat.toUInt8.toNat : Nat) : Int) = _
    rw [Lib.toUInt8_toNat (by omega), Int.toNat_of_nonneg this.1]
  rw [e]; exact hr

theorem as_i64 {a : Option Addr} {zs : List Int} (hr : Rd W a (zs.map (Value.int .i64))) (hw : ∀ z ∈ zs, (Lit.int .i64 z).wf = true) : Rd W a (ic zs) ∧ ∀ z ∈ zs, -9223372036854775808 ≤ z ∧ z ≤ 9223372036854775807 :=
  ⟨hr, fun z hz => by simpa [Lit.wf, IntKind.min, IntKind.max, IntKind.signed, IntKind.bits] using hw z hz⟩

theorem num_u64 {x : Int} (hw : (Lit.int .u64 x).wf = true) : ∃ n : Nat, x = n ∧ n < 18446744073709551616 := by
  have h : 0 ≤ x ∧ x ≤ 18446744073709551615 := by simpa [Lit.wf, IntKind.min, IntKind.max, IntKind.signed, IntKind.bits] using hw
  exact ⟨x.toNat, by omega, by omega⟩
theorem num_u8 {x : Int} (hw : (Lit.int .u8 x).wf = true) : ∃ n : Nat, x = n ∧ n < 256 := by
  have h : 0 ≤ x ∧ x ≤ 255 := by simpa [Lit.wf, IntKind.min, IntKind.max, IntKind.signed, IntKind.bits] using hw
  exact ⟨x.toNat, by omega, by omega⟩
theorem num_i64 {x : Int} (hw : (Lit.int .i64 x).wf = true) : -9223372036854775808 ≤ x ∧ x ≤ 9223372036854775807 := by
  simpa [Lit.wf, IntKind.min, IntKind.max, IntKind.signed, IntKind.bits] using hw

/-- what the second form's bound gives of a slice -/
theorem bulk_pos (d : DataW H) : 1 ≤ Rows.uptoBulk d := by
  cases d with
  | lit l => cases l <;> simp [Rows.uptoBulk]
  | _ => simp [Rows.uptoBulk]
theorem bulk_len (l : List (DataW H)) : l.length ≤ Rows.uptoBulkAll l := by
  induction l with
  | nil => simp
  | cons x r ih => have := bulk_pos x; simp only [Rows.uptoBulkAll, List.length_cons]; omega
theorem bulk_in {d : DataW H} {l : List (DataW H)} (h : d ∈ l) : Rows.uptoBulk d ≤ Rows.uptoBulkAll l := by
  induction l with
  | nil => cases h
  | cons x r ih =>
    simp only [Rows.uptoBulkAll]
    rcases List.mem_cons.1 h with rfl | e
    · omega
    · have := ih e; omega
theorem bulk_slice {el sp l : List (DataW H)} (hk : Rows.uptoSmall H l = true) (h : DataW.slice el sp ∈ l) : el.length ≤ 1048576 := by
  have h1 : Rows.uptoBulkAll l ≤ 1048576 := of_decide_eq_true hk
  have h2 := bulk_in h
  have h3 := bulk_len el
  simp only [Rows.uptoBulk] at h2
  omega

theorem len_upto {len : Nat} {d : DataW H} {l : List (DataW H)} (hd : len = 0 ∨ ∃ el sp, d = .slice el sp ∧ el.length = len) (hk : Rows.uptoSmall H l = true) (h : d ∈ l) : len ≤ 1048576 := by
  rcases hd with rfl | ⟨el, sp, rfl, rfl⟩
  · omega
  · exact bulk_slice hk h
theorem len_sized {len j : Nat} {t e : TypeId} {d : DataW H} {ts : List TypeId} {l : List (DataW H)} (hd : len = 0 ∨ ∃ el sp, d = .slice el sp ∧ el.length = len) (hs : (DataW.weightsEach Try.prog ts l).all (· ≤ reachBytes) = true) (ht : ts[j]? = some t) (h : l[j]? = some d)
    (hu : Try.prog.underlying t = some (.slice e)) : len * Try.prog.bytesOf e ≤ 140737488351232 := by
  rcases hd with rfl | ⟨el, sp, rfl, rfl⟩
  · omega
  · have := sized_slice hs ht h hu
    have e : reachBytes = 140737488351232 := rfl
    rw [e, Nat.add_mul] at this
    omega
end
end Go.Proofs.Ytnlndimojibimaa
