/-
  What is proved here: binary.ReadVarint gives what ReadUvarint gives, out of its zig-zag form; impl.give makes a reader. Conditions: the number fits 64 bits; at least one piece, at most 12000000.
-/
import Derived.Test.YtllkjlfjoadifaaDoorUvEnd
namespace Go.Proofs.YtllkjlfjoadifaaDoor
open Go.RowKit

set_option maxHeartbeats 1000000 in
set_option maxRecDepth 100000 in
theorem rv (u : Nat) (hu : u < 18446744073709551616) (v a : Value) (w : World) (R : World → Prop) (hU : Calls Tryd.prog 21 #[a] w fun e w' => e = .returned (.tuple #[.int .u64 (u : Int), v]) ∧ R w') :
    Calls Tryd.prog 18 #[a] w fun e w' => e = .returned (.tuple #[.int .i64 (Lib.unzigzag u), v]) ∧ R w' := by
  have HU := Lib.hid hU
  clear hU
  have hand := Lib.u64_and1 (u : Int) (by omega) (by omega)
  by_cases hodd : u % 2 = 0
  · have hand0 : bits .and .u64 (u : Int) 1 = 0 := by rw [hand]; omega
    have hz : Lib.unzigzag u = (u : Int) / 2 := by simp [Lib.unzigzag, hodd]
    rw [hz]
    clear hand hz hodd
    go_enter Tryd.func18, Tryd.ntmps18
    go_wp2_with fail
    refine HU.out.mono ?_
    rintro e w1 ⟨rfl, hR⟩
    go_wp2
    go_ret2
    exact ⟨rfl, hR⟩
  · have hand1 : bits .and .u64 (u : Int) 1 = 1 := by rw [hand]; omega
    have hnot : bits .xor .i64 (-1) ((u : Int) / 2) = -((u : Int) / 2) - 1 := by
      have h3 := Lib.i64_not (u / 2) (by omega)
      rw [show (((u / 2 : Nat) : Int)) = (u : Int) / 2 by omega] at h3
      exact h3
    have hz : Lib.unzigzag u = -((u : Int) / 2) - 1 := by simp [Lib.unzigzag, hodd]
    rw [hz]
    clear hand hz hodd
    go_enter Tryd.func18, Tryd.ntmps18
    go_wp2_with fail
    refine HU.out.mono ?_
    rintro e w1 ⟨rfl, hR⟩
    go_wp2
    go_ret2
    exact ⟨rfl, hR⟩

theorem parts_one {w : World} {ps : List Value} {bss : List (List UInt8)} (h : Parts w ps bss) : ∀ u ∈ ps, u.oneCell' = true := by
  intro u hu
  obtain ⟨j, hj⟩ := List.getElem?_of_mem hu
  have hlt : j < ps.length := by
    rcases Nat.lt_or_ge j ps.length with h | h
    · exact h
    · rw [List.getElem?_eq_none h] at hj; cases hj
  obtain ⟨A, c, h1, _⟩ := h.2 j (bss[j]'(by rw [← h.1]; exact hlt)) (List.getElem?_eq_getElem _)
  rw [hj] at h1
  injection h1 with h1
  rw [h1]
  rfl

set_option maxHeartbeats 1000000 in
set_option maxRecDepth 100000 in
theorem give (A : Option Addr) (c : Nat) (ps : List Value) (bss : List (List UInt8)) (w : World) (hr : Rd w A ps) (hp : Parts w ps bss) (h0 : 0 < ps.length) (hl : ps.length ≤ 12000000) :
    Calls Tryd.prog 17 #[.slice A ps.length c] w fun e w' => ∃ gv, e = .returned (.pointer (some ⟨gv, 0, none⟩)) ∧ (∃ m, Gv w w' gv 0 m bss.flatten) := by
  obtain ⟨i0, hi, hz0, hz1, hz2⟩ := info_parts info_bytes
  obtain ⟨b, off, rfl, hb, hcells⟩ : ∃ b off, A = some ⟨b, off, none⟩ ∧ b < w.heap.size ∧ ∀ j u, ps[j]? = some u → w.cell? ⟨b, off + j, none⟩ = some u := by
    rcases hr with h | h
    · rw [h] at h0; simp at h0
    · exact h
  have HCS : Hid (∀ j u, ps[j]? = some u → w.cell? ((⟨b, off, none⟩ : Addr).add j) = some u) := fun j u hu => by rw [addr_add]; exact hcells j u hu
  have H1 := Lib.hid (parts_one hp)
  have HP := Lib.hid hp
  clear hcells hp hr
  go_enter Tryd.func17, Tryd.ntmps17
  go_wp2_with (at_builtin; refine wpList_append_own_wide _ rfl _ _ 28 rfl w.heap.size 24 i0 (.slice none 0 0) 1 24 Tryd.underlying28 hi hz0 hz1 hz2 rfl (by decide) _ _ _ rfl (World.ownsRow_nil _ _ _ _) ⟨b, off, none⟩ ps.length c ps rfl (by omega) HCS.out H1.out (by unfold maxLen; omega) (by omega) (Nat.le_refl _) ?_)
  intro v1 w1 hown1 hgr1 _
  have HO := Lib.hid hown1
  have HB : Hid (Below w.heap.size w w1) := (Below.refl _ _).grown hgr1 (Nat.le_refl _) (fun k hk => by simp [Value.ownBlock] at hk)
  rcases hown1.2 with ⟨_, h⟩ | ⟨g, cap, cur, hv, hg, hh, hnc, hcm, hsz, htk⟩
  · omega
  subst hv
  have HH := Lib.hid hh
  have HT := Lib.hid htk
  have HSZ := Lib.hid hsz
  clear hown1 hgr1 hh htk hsz
  go_wp2
  go_ret
  refine ⟨w1.heap.size, rfl, ps.length, some ⟨g, 0, none⟩, cap, ps, bss, HB.out.size, heap_alloc_new w1 _, ⟨rfl, hnc, hcm, .inr ⟨g, 0, cur, rfl, hg, ?_, by have := HSZ.out; omega, by rw [List.drop_zero]; simpa using HT.out⟩⟩, HP.out, rfl, HB.out.alloc HB.out.size _⟩
  rw [Below.heap_alloc w1 _ g (Array.getElem?_eq_some_iff.1 HH.out).1]
  exact HH.out
end Go.Proofs.YtllkjlfjoadifaaDoor
