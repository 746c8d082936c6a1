/-
  What is proved here: how the arguments of a law are opened (a slice of numbers that came in reads as a list), and what the two bounds on their size give. Conditions: each lemma says its own.
-/
import Derived.Test.YtbioeknobmcbiaaRows
import Derived.Test.YtbioeknobmcbiaaBase
import Derived.ProofKit
import Derived.OpenShut
import Derived.ShutString
import Derived.ChangeOld
import Derived.Below
import Derived.JoinedCond
import Derived.SizedLaws
import Derived.Deep.Matrix
import Derived.Test.YtbioeknobmcbiaaWp
namespace Go.Proofs.Ytbioeknobmcbiaa
open Go.ChangeShapes Go.WideShapes Go.ChangeAt Go.RowKit

theorem u8_toNat {n : Nat} (h : n < 256) : n.toUInt8.toNat = n := by simp [Nat.toUInt8]; omega
theorem own : ownKnob Try.prog.godebug = none := by kernel_rfl
theorem laidOut : laidOutB Try.prog = true := by kernel_rfl

section
variable {H : Type} {enc : TypeId × Value → H} {W : World}

/-- A slice of integers that came in. -/
theorem open_row {t e : TypeId} {k : IntKind} {a : Option Addr} {len cap : Nat} {d : DataW H} {p : List MemPlace} (ht : Try.prog.underlying t = some (.slice e)) (he : Try.prog.underlying e = some (.int k)) (hc : Try.prog.cellsOf e = 1)
    (h : DataW.Trod enc Try.prog W 0 (fun _ => true) true t (.slice a len cap) d p) :
    ∃ zs : List Int, zs.length = len ∧ Rd W a (zs.map (Value.int k)) ∧ (∀ z ∈ zs, (Lit.int k z).wf = true) ∧ (len = 0 ∨ ∃ el sp, d = .slice el sp ∧ el.length = len) ∧ (∀ x ∈ p, x.block < W.heap.size) ∧ len ≤ cap := by
  have lt : ∀ x ∈ p, x.block < W.heap.size := by obtain ⟨m, hm⟩ := h; exact DataW.trod_lt m _ _ _ hm
  obtain ⟨fuel, hf⟩ := h
  rcases open_ints ht he hc hf with ⟨hcs, _⟩ | ⟨x, l, c, zs, hcs, _, hl, hm, hz, hx, hcell, hwz⟩
  · simp [Value.cells] at hcs
    obtain ⟨rfl, rfl, rfl⟩ := hcs
    exact ⟨[], rfl, .inl rfl, by simp, .inl rfl, lt, Nat.le_refl _⟩
  · simp [Value.cells] at hcs
    obtain ⟨rfl, rfl, rfl⟩ := hcs
    simp only [if_true] at hz
    have hd : d = .slice (lits k (zs.take len)) (lits k (zs.drop len)) := congrArg Prod.fst hx
    refine ⟨zs.take len, by rw [List.length_take]; omega, ?_, fun z hzm => hwz z (List.mem_of_mem_take hzm), .inr ⟨_, _, hd, by simp [lits]; omega⟩, lt, hl⟩
    by_cases h0 : len = 0
    · subst h0; exact .inl (by simp)
    · obtain ⟨b, off, spot⟩ := x
      have hc0 := hcell 0 (by omega)
      have hspot : spot = none := by simpa [Addr.add] using World.cell?_spot hc0
      subst hspot
      refine .inr ⟨b, off, rfl, World.block_lt_of_cell? W ⟨b, off, none⟩ (by simpa [Addr.add] using hc0), fun j u hu => ?_⟩
      rw [List.getElem?_map] at hu
      rcases hj : (zs.take len)[j]? with _ | z
      · rw [hj] at hu; cases hu
      · rw [hj] at hu
        simp only [Option.map_some, Option.some.injEq] at hu
        subst hu
        have hjl : j < len ∧ zs[j]? = some z := by
          rw [List.getElem?_take] at hj
          split at hj
          · exact ⟨by assumption, hj⟩
          · cases hj
        have := hcell j (by omega)
        rw [addr_add] at this
        rw [this, List.getD_eq_getElem?_getD, hjl.2]; rfl

theorem as_u64 {a : Option Addr} {zs : List Int} (hr : Rd W a (zs.map (Value.int .u64))) (hw : ∀ z ∈ zs, (Lit.int .u64 z).wf = true) : ∃ ns : List Nat, ns.length = zs.length ∧ Rd W a (nc ns) ∧ ∀ x ∈ ns, x < 18446744073709551616 := by
  have hb : ∀ z ∈ zs, 0 ≤ z ∧ z ≤ 18446744073709551615 := fun z hz => by simpa [Lit.wf, IntKind.min, IntKind.max, IntKind.signed, IntKind.bits] using hw z hz
  refine ⟨zs.map Int.toNat, by simp, ?_, ?_⟩
  · have e : nc (zs.map Int.toNat) = zs.map (Value.int .u64) := by
      unfold nc
      rw [List.map_map]
      refine List.map_congr_left fun z hz => ?_
      have := hb z hz
      show Value.int .u64 ((z.toNat : Nat) : Int) = _
      rw [Int.toNat_of_nonneg this.1]
    rw [e]; exact hr
  · intro x hx
    obtain ⟨z, hz, rfl⟩ := List.mem_map.1 hx
    have := hb z hz
    omega

theorem as_u8 {a : Option Addr} {zs : List Int} (hr : Rd W a (zs.map (Value.int .u8))) (hw : ∀ z ∈ zs, (Lit.int .u8 z).wf = true) : ∃ bs : List UInt8, bs.length = zs.length ∧ Rd W a (bc bs) := by
  have hb : ∀ z ∈ zs, 0 ≤ z ∧ z ≤ 255 := fun z hz => by simpa [Lit.wf, IntKind.min, IntKind.max, IntKind.signed, IntKind.bits] using hw z hz
  refine ⟨zs.map fun z => z.toNat.toUInt8, by simp, ?_⟩
  have e : bc (zs.map fun z => z.toNat.toUInt8) = zs.map (Value.int .u8) := by
    unfold bc Lib.byteCells
    rw [List.map_map]
    refine List.map_congr_left fun z hz => ?_
    have := hb z hz
    show Value.int .u8 ((z.toNat.toUInt8.toNat : Nat) : Int) = _
    rw [u8_toNat (by omega), Int.toNat_of_nonneg this.1]
  rw [e]; exact hr

theorem as_i64 {a : Option Addr} {zs : List Int} (hr : Rd W a (zs.map (Value.int .i64))) (hw : ∀ z ∈ zs, (Lit.int .i64 z).wf = true) : Rd W a (ic zs) ∧ ∀ z ∈ zs, -9223372036854775808 ≤ z ∧ z ≤ 9223372036854775807 :=
  ⟨hr, fun z hz => by simpa [Lit.wf, IntKind.min, IntKind.max, IntKind.signed, IntKind.bits] using hw z hz⟩

theorem num_u64 {x : Int} (hw : (Lit.int .u64 x).wf = true) : ∃ n : Nat, x = n ∧ n < 18446744073709551616 := by
  have h : 0 ≤ x ∧ x ≤ 18446744073709551615 := by simpa [Lit.wf, IntKind.min, IntKind.max, IntKind.signed, IntKind.bits] using hw
  exact ⟨x.toNat, by omega, by omega⟩
theorem num_u8 {x : Int} (hw : (Lit.int .u8 x).wf = true) : ∃ n : Nat, x = n ∧ n < 256 := by
  have h : 0 ≤ x ∧ x ≤ 255 := by simpa [Lit.wf, IntKind.min, IntKind.max, IntKind.signed, IntKind.bits] using hw
  exact ⟨x.toNat, by omega, by omega⟩
theorem num_i64 {x : Int} (hw : (Lit.int .i64 x).wf = true) : -9223372036854775808 ≤ x ∧ x ≤ 9223372036854775807 := by
  simpa [Lit.wf, IntKind.min, IntKind.max, IntKind.signed, IntKind.bits] using hw

/-- what the second form's bound gives of a slice -/
theorem bulk_pos (d : DataW H) : 1 ≤ Rows.uptoBulk d := by
  cases d with
  | lit l => cases l <;> simp [Rows.uptoBulk]
  | _ => simp [Rows.uptoBulk]
theorem bulk_len (l : List (DataW H)) : l.length ≤ Rows.uptoBulkAll l := by
  induction l with
  | nil => simp
  | cons x r ih => have := bulk_pos x; simp only [Rows.uptoBulkAll, List.length_cons]; omega
theorem bulk_in {d : DataW H} {l : List (DataW H)} (h : d ∈ l) : Rows.uptoBulk d ≤ Rows.uptoBulkAll l := by
  induction l with
  | nil => cases h
  | cons x r ih =>
    simp only [Rows.uptoBulkAll]
    rcases List.mem_cons.1 h with rfl | e
    · omega
    · have := ih e; omega
theorem bulk_slice {el sp l : List (DataW H)} (hk : Rows.uptoSmall H l = true) (h : DataW.slice el sp ∈ l) : el.length ≤ 1048576 := by
  have h1 : Rows.uptoBulkAll l ≤ 1048576 := of_decide_eq_true hk
  have h2 := bulk_in h
  have h3 := bulk_len el
  simp only [Rows.uptoBulk] at h2
  omega

theorem len_upto {len : Nat} {d : DataW H} {l : List (DataW H)} (hd : len = 0 ∨ ∃ el sp, d = .slice el sp ∧ el.length = len) (hk : Rows.uptoSmall H l = true) (h : d ∈ l) : len ≤ 1048576 := by
  rcases hd with rfl | ⟨el, sp, rfl, rfl⟩
  · omega
  · exact bulk_slice hk h
theorem len_sized {len j : Nat} {t e : TypeId} {d : DataW H} {ts : List TypeId} {l : List (DataW H)} (hd : len = 0 ∨ ∃ el sp, d = .slice el sp ∧ el.length = len) (hs : (DataW.weightsEach Try.prog ts l).all (· ≤ reachBytes) = true) (ht : ts[j]? = some t) (h : l[j]? = some d)
    (hu : Try.prog.underlying t = some (.slice e)) : len * Try.prog.bytesOf e ≤ 140737488351232 := by
  rcases hd with rfl | ⟨el, sp, rfl, rfl⟩
  · omega
  · have := sized_slice hs ht h hu
    have e : reachBytes = 140737488351232 := rfl
    rw [e, Nat.add_mul] at this
    omega

/-- a byte row's numbers as bytes -/
def toBytes (zs : List Int) : List UInt8 := zs.map fun z => z.toNat.toUInt8
theorem bc_toBytes {zs : List Int} (hw : ∀ z ∈ zs, (Lit.int .u8 z).wf = true) : bc (toBytes zs) = zs.map (Value.int .u8) := by
  have hb : ∀ z ∈ zs, 0 ≤ z ∧ z ≤ 255 := fun z hz => by simpa [Lit.wf, IntKind.min, IntKind.max, IntKind.signed, IntKind.bits] using hw z hz
  unfold bc Lib.byteCells toBytes
  rw [List.map_map]
  refine List.map_congr_left fun z hz => ?_
  have := hb z hz
  show Value.int .u8 ((z.toNat.toUInt8.toNat : Nat) : Int) = _
  rw [u8_toNat (by omega), Int.toNat_of_nonneg this.1]
theorem toBytes_length (zs : List Int) : (toBytes zs).length = zs.length := by simp [toBytes]
theorem bulk_rows (l : List (DataW H)) (bss : List (List UInt8)) (hl : l.length = bss.length) (h : ∀ (j : Nat) (d : DataW H) (bs : List UInt8), l[j]? = some d → bss[j]? = some bs → bs.length ≤ Rows.uptoBulk d) : bss.flatten.length ≤ Rows.uptoBulkAll l := by
  induction l generalizing bss with
  | nil =>
    have : bss = [] := List.eq_nil_of_length_eq_zero hl.symm
    subst this; simp
  | cons d r ih =>
    match bss, hl with
    | bs :: bss', hl =>
      have h0 := h 0 d bs rfl rfl
      have h1 := ih bss' (by simpa using hl) (fun j d' b' hd hb => h (j + 1) d' b' (by simpa using hd) (by simpa using hb))
      simp only [Rows.uptoBulkAll, List.flatten_cons, List.length_append]
      omega
/-- Slices of bytes that came in. -/
theorem open_parts {a : Option Addr} {len cap : Nat} {d : DataW H} {p : List MemPlace} (h : DataW.Trod enc Try.prog W 0 (fun _ => true) true 22 (.slice a len cap) d p) :
    ∃ (ps : List Value) (bss : List (List UInt8)), bss.length = len ∧ Rd W a ps ∧ Parts W ps bss ∧ (len = 0 ∨ ∃ el sp, d = .slice el sp ∧ el.length = len) ∧ (∀ x ∈ p, x.block < W.heap.size) ∧ len ≤ cap ∧ cap ≤ maxLen ∧ bss.flatten.length ≤ Rows.uptoBulk d := by
  have lt : ∀ x ∈ p, x.block < W.heap.size := by obtain ⟨m, hm⟩ := h; exact DataW.trod_lt m _ _ _ hm
  obtain ⟨fuel, hf⟩ := h
  rcases Deep.open_int_rows Try.underlying22 Try.underlying25 Try.underlying5 (by kernel_rfl) (by kernel_rfl) hf with ⟨hcs, _⟩ | ⟨x, l, c, A, L, C, Z, hcs, _, hl, hm, hx, hrow⟩
  · simp [Value.cells] at hcs
    obtain ⟨rfl, rfl, rfl⟩ := hcs
    exact ⟨[], [], rfl, .inl rfl, ⟨rfl, fun j bs h => by simp at h⟩, .inl rfl, lt, Nat.le_refl _, Nat.zero_le _, by simp⟩
  · simp [Value.cells] at hcs
    obtain ⟨rfl, rfl, rfl⟩ := hcs
    have hd := congrArg Prod.fst hx
    simp only at hd
    have hlen : ∀ r, r < len → (toBytes ((Z r).take (L r))).length = L r := fun r hr => by
      obtain ⟨_, h1, _, h2, _⟩ := hrow r (by omega)
      rw [toBytes_length, List.length_take]; omega
    refine ⟨(List.range len).map fun r => .slice (A r) (L r) (C r), (List.range len).map fun r => toBytes ((Z r).take (L r)), by simp, ?_, ⟨by simp, fun j bs hj => ?_⟩, .inr ⟨_, _, hd, by simp⟩, lt, hl, hm, ?_⟩
    · by_cases h0 : len = 0
      · subst h0; exact .inl (by simp)
      · obtain ⟨b, off, spot⟩ := x
        have hc0 := (hrow 0 (by omega)).1
        have hspot : spot = none := by simpa [Addr.add] using World.cell?_spot hc0
        subst hspot
        refine .inr ⟨b, off, rfl, World.block_lt_of_cell? W ⟨b, off, none⟩ (by simpa [Addr.add] using hc0), fun j u hu => ?_⟩
        rw [List.getElem?_map] at hu
        by_cases hj : j < len
        · rw [List.getElem?_range hj] at hu
          simp only [Option.map_some, Option.some.injEq] at hu
          subst hu
          have := (hrow j (by omega)).1
          rwa [addr_add] at this
        · rw [List.getElem?_eq_none (by simp; omega)] at hu; cases hu
    · rw [List.getElem?_map] at hj
      by_cases hlt : j < len
      · rw [List.getElem?_range hlt] at hj
        simp only [Option.map_some, Option.some.injEq] at hj
        subst hj
        obtain ⟨_, h1, h2, h3, h4, h5, h6⟩ := hrow j (by omega)
        refine ⟨A j, C j, by rw [List.getElem?_map, List.getElem?_range hlt, hlen j hlt]; rfl, by rw [hlen j hlt]; exact h1, h2, ?_⟩
        rw [bc_toBytes (fun z hz => h4 z (List.mem_of_mem_take hz))]
        by_cases h0 : L j = 0
        · rw [h0]; exact .inl (by simp)
        · rcases hA : A j with _ | a'
          · exact absurd (h5 hA) (by omega)
          · obtain ⟨_, hc⟩ := h6 a' hA
            obtain ⟨b, off, spot⟩ := a'
            have hc0 := hc 0 (by omega)
            have hspot : spot = none := by simpa [Addr.add] using World.cell?_spot hc0
            subst hspot
            refine .inr ⟨b, off, rfl, World.block_lt_of_cell? W ⟨b, off, none⟩ (by simpa [Addr.add] using hc0), fun i u hu => ?_⟩
            rw [List.getElem?_map] at hu
            rcases hi : ((Z j).take (L j))[i]? with _ | z
            · rw [hi] at hu; cases hu
            · rw [hi] at hu
              simp only [Option.map_some, Option.some.injEq] at hu
              subst hu
              rw [List.getElem?_take] at hi
              split at hi
              · have hcc := hc i (by omega)
                rw [addr_add] at hcc
                rw [hcc, List.getD_eq_getElem?_getD, hi]; rfl
              · cases hi
      · rw [List.getElem?_eq_none (by simp; omega)] at hj; cases hj
    · rw [hd]
      simp only [Rows.uptoBulk]
      have := bulk_rows ((List.range len).map fun r => Deep.intRow .u8 (A r) (L r) (Z r) : List (DataW H)) ((List.range len).map fun r => toBytes ((Z r).take (L r))) (by simp) (fun j d bs hjd hjb => ?_)
      · omega
      · rw [List.getElem?_map] at hjd hjb
        by_cases hlt : j < len
        · rw [List.getElem?_range hlt] at hjd hjb
          simp only [Option.map_some, Option.some.injEq] at hjd hjb
          subst hjd; subst hjb
          obtain ⟨_, h1, h2, h3, h4, h5, h6⟩ := hrow j (by omega)
          rw [hlen j hlt]
          rcases hA : A j with _ | a'
          · have := h5 hA; omega
          · unfold Deep.intRow
            simp only [Rows.uptoBulk]
            have hb := bulk_len (lits .u8 ((Z j).take (L j)) : List (DataW H))
            have he : (lits .u8 ((Z j).take (L j)) : List (DataW H)).length = L j := by simp [lits]; omega
            omega
        · rw [List.getElem?_eq_none (by simp; omega)] at hjd; cases hjd
theorem parts_upto {n : Nat} {d : DataW H} {l : List (DataW H)} (hd : n ≤ Rows.uptoBulk d) (hk : Rows.uptoSmall H l = true) (h : d ∈ l) : n ≤ 1048576 := by
  have h1 : Rows.uptoBulkAll l ≤ 1048576 := of_decide_eq_true hk
  have h2 := bulk_in h
  omega
end
end Go.Proofs.Ytbioeknobmcbiaa
