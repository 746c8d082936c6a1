/-
  What is proved here: hex.Encode into a block of cells (the source may lie ahead of the target in the same block), and hex.toChar. Conditions: the target has room.
-/
import Derived.Test.YtbioeknobmcbiaaMem
namespace Go.Proofs.Ytbioeknobmcbiaa
open Go.RowKit

theorem ret_int {k : IntKind} {a b : Int} (h : a = b) : Ending.returned (.int k a) = .returned (.int k b) := by rw [h]
def hexs (bs : List UInt8) : List UInt8 := bs.flatMap fun b => [hexd (b.toNat / 16), hexd b.toNat]
theorem hexs_length (bs : List UInt8) : (hexs bs).length = 2 * bs.length := by
  induction bs with
  | nil => rfl
  | cons b r ih => simp only [hexs, List.flatMap_cons, List.length_append] at ih ⊢; rw [ih]; simp; omega
theorem hexs_snoc (bs : List UInt8) (b : UInt8) : hexs (bs ++ [b]) = hexs bs ++ [hexd (b.toNat / 16), hexd b.toNat] := by simp [hexs]

theorem u8_and15 (b : UInt8) : bits .and .u8 (b.toNat : Int) 15 = ((b.toNat % 16 : Nat) : Int) := by
  have h : ∀ n < 256, bits .and .u8 ((n : Nat) : Int) 15 = ((n % 16 : Nat) : Int) := by decide +kernel
  exact h _ b.toNat_lt
abbrev tbl : ByteArray := ⟨#[48, 49, 50, 51, 52, 53, 54, 55, 56, 57, 97, 98, 99, 100, 101, 102]⟩
theorem tbl_at (n : Nat) (h : n < 16) : (tbl[n]'h).toNat = (hexd n).toNat := by
  have e : ∀ n : Fin 16, (tbl[n.1]'n.2).toNat = (hexd n.1).toNat := by decide +kernel
  exact e ⟨n, h⟩
theorem hexd_mod (n : Nat) : hexd (n % 16) = hexd n := by unfold hexd; rw [Nat.mod_mod]

set_option maxHeartbeats 2000000 in
theorem encode (w : World) (D : Nat) (t : TypeId) (cur : List Value) (dof dl dc sb so c : Nat) (bs : List UInt8) (hD : w.heap[D]? = some (.cells cur.toArray t (0, 0))) (hl : dof + 2 * bs.length ≤ cur.length) (hdl : 2 * bs.length ≤ dl) (hdm : dl ≤ 1000000)
    (hs : ∀ j b, bs[j]? = some b → w.cell? ⟨sb, so + j, none⟩ = some (.int .u8 (b.toNat : Int))) (hap : sb ≠ D ∨ so + bs.length ≤ dof) :
    Calls Try.prog 55 #[.slice (some ⟨D, dof, none⟩) dl dc, .slice (some ⟨sb, so, none⟩) bs.length c] w fun e w' => e = .returned (.int .i64 ((2 * bs.length : Nat) : Int)) ∧ w'.heap[D]? = some (.cells (put cur dof (bc (hexs bs))).toArray t (0, 0)) ∧ Only D w w' := by
  have HD := Lib.hid hD
  have HS := Lib.hid hs
  have HA := Lib.hid hap
  clear hD hs hap
  go_enter Try.func55, Try.ntmps55
  go_wp2
  go_loopw [5, 10, 7] (fun j i v wr => ∃ k : Nat, k ≤ bs.length ∧ i = .int .i64 k ∧ j = .int .i64 (2 * (k : Int)) ∧ wr.heap[D]? = some (.cells (put cur dof (bc (hexs (bs.take k)))).toArray t (0, 0)) ∧ Only D w wr) (fun _ i _ _ => bs.length - (intOf i).toNat)
  case atStart => exact ⟨0, Nat.zero_le _, rfl, rfl, by rw [List.take_zero]; exact (put_nil cur dof).symm ▸ HD.out, Only.refl _ _⟩
  case round =>
    obtain ⟨k, hk, rfl, rfl, hb, ho⟩ := hrel
    have HB := Lib.hid hb
    have HO := Lib.hid ho
    clear hb ho
    by_cases hlt : k < bs.length
    · obtain ⟨b, hbk⟩ : ∃ b, bs[k]? = some b := ⟨_, List.getElem?_eq_getElem hlt⟩
      have hsrc : wr.cell? ⟨sb, so + k, none⟩ = some (.int .u8 (b.toNat : Int)) := by
        by_cases hne : sb = D
        · subst hne
          have h1 := HA.out.resolve_left (by simp)
          rw [blk_cell HB.out, List.getElem?_toArray, put_before _ _ _ _ (by omega) (by omega), ← List.getElem?_toArray, ← blk_cell HD.out]
          exact HS.out k b hbk
        · rw [HO.out.cell hne]; exact HS.out k b hbk
      have hb256 := b.toNat_lt
      have HK := Lib.hid hbk
      clear hbk
      have hlen : (hexs (bs.take k)).length = 2 * k := by rw [hexs_length, List.length_take]; omega
      have hb16 : b.toNat / 16 < 16 := by omega
      have hbm : b.toNat % 16 < 16 := by omega
      have ht1 := tbl_at _ hb16
      have ht2 := tbl_at _ hbm
      rw [hexd_mod] at ht2
      have hand := u8_and15 b
      have hb16i : (0 : Int) ≤ (b.toNat : Int) / 16 ∧ (b.toNat : Int) / 16 < 16 := by omega
      have hj : 2 * (k : Int) < (dl : Int) := by omega
      have hj1 : 2 * (k : Int) + 1 < (dl : Int) := by omega
      obtain ⟨x1, hx1⟩ : ∃ x, wr.cell? ⟨D, dof + 2 * k, none⟩ = some x := by
        rw [blk_cell HB.out, List.getElem?_toArray]
        exact ⟨_, List.getElem?_eq_getElem (by rw [put_length _ _ _ (by rw [bc_length]; omega)]; omega)⟩
      have hf1 := blk_free HB.out (dof + 2 * k)
      obtain ⟨x2, hx2⟩ : ∃ x, wr.cell? ⟨D, dof + (2 * k + 1), none⟩ = some x := by
        rw [blk_cell HB.out, List.getElem?_toArray]
        exact ⟨_, List.getElem?_eq_getElem (by rw [put_length _ _ _ (by rw [bc_length]; omega)]; omega)⟩
      have hf2 := blk_free HB.out (dof + (2 * k + 1))
      have HLE := Lib.hid hlen
      clear hlen
      go_wp2
      go_roundw
      case rel =>
        refine ⟨k + 1, by omega, by go_num, by go_num, ?_, (HO.out.set _ _).set _ _⟩
        rw [blk_set (blk_set HB.out _ _), take_snoc HK.out, hexs_snoc, bc_append]
        rw [List.setIfInBounds_toArray, List.setIfInBounds_toArray]
        have e1 := put_snoc cur dof (bc (hexs (bs.take k))) (.int .u8 ((hexd (b.toNat / 16)).toNat : Int)) (by rw [bc_length, HLE.out]; omega)
        have e2 := put_snoc cur dof (bc (hexs (bs.take k)) ++ [.int .u8 ((hexd (b.toNat / 16)).toNat : Int)]) (.int .u8 ((hexd b.toNat).toNat : Int)) (by rw [List.length_append, bc_length, HLE.out]; simp; omega)
        rw [bc_length, HLE.out] at e1
        rw [List.length_append, bc_length, HLE.out] at e2
        simp only [List.length_singleton] at e2
        rw [e1, e2, List.append_assoc]
        rfl
      case measure => simp [intOf]; omega
    · obtain rfl : k = bs.length := by omega
      have hfin : wr.heap[D]? = some (.cells (put cur dof (bc (hexs bs))).toArray t (0, 0)) := by have := HB.out; rwa [List.take_length] at this
      have HFN := Lib.hid hfin
      clear hfin
      go_wp2
      go_ret
      exact ⟨ret_int (by omega), HFN.out, HO.out⟩

set_option maxHeartbeats 1000000 in
theorem toChar_ (w : World) (b : UInt8) : Calls Try.prog 56 #[.int .u8 (b.toNat : Int)] w fun e w' => e = .returned (.int .u8 ((shownC b).toNat : Int)) ∧ w = w' := by
  by_cases h1 : b.toNat < 32
  · go_enter Try.func56, Try.ntmps56
    go_wp2
    go_ret
    exact ⟨by unfold shownC; rw [if_pos (.inl h1)]; rfl, rfl⟩
  · by_cases h2 : 126 < b.toNat
    · go_enter Try.func56, Try.ntmps56
      go_wp2
      go_ret
      exact ⟨by unfold shownC; rw [if_pos (.inr h2)]; rfl, rfl⟩
    · go_enter Try.func56, Try.ntmps56
      go_wp2
      go_ret
      exact ⟨by unfold shownC; rw [if_neg (by omega)]; rfl, rfl⟩
end Go.Proofs.Ytbioeknobmcbiaa
