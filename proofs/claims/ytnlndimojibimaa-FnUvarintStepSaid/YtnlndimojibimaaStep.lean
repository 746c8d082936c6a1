/-
  What is proved here: the walk of FnUvarintStep: it returns true. Conditions: none.
-/
import Derived.Test.YtnlndimojibimaaBegin
import Derived.Test.YtnlndimojibimaaApp
import Derived.Test.YtnlndimojibimaaAppend
import Derived.Test.YtnlndimojibimaaSpec
import Derived.Deep.RegionWith
namespace Go.Proofs.Ytnlndimojibimaa
open Go.RowKit

theorem own_lit1 (w : World) (e : TypeId) (v : Value) : (w.alloc (.cells #[v] e)).ownsRow w.heap.size e 1 (.slice (some ⟨w.heap.size, 0, none⟩) 1 1) 1 [v] :=
  ⟨by simp, .inr ⟨w.heap.size, 1, #[v], rfl, Nat.le_refl _, by rw [World.alloc]; simp, Nat.le_refl _, by unfold maxLen; omega, by simp, by simp⟩⟩

theorem Rd.cell1 {W : World} {b off : Nat} {v : Value} (hc : W.cell? ⟨b, off, none⟩ = some v) : Rd W (some ⟨b, off, none⟩) [v] :=
  .inr ⟨b, off, rfl, World.block_lt_of_cell? W ⟨b, off, none⟩ hc, fun j u hu => by
    match j, hu with
    | 0, hu => simp at hu; subst hu; exact hc⟩

/-- AppendList at one number. -/
theorem appendOne (x b : Nat) (hx : x < 18446744073709551616) (w : World) (hc : w.cell? ⟨b, 0, none⟩ = some (.int .u64 (x : Int))) :
    Calls Try.prog 20 #[.slice (some ⟨b, 0, none⟩) 1 1] w fun e w' => ∃ A2 c2, e = .returned (.slice A2 (Lib.uvarint x).length c2) ∧ Rd w' A2 (bc (Lib.uvarint x)) ∧ Below w.heap.size w w' := by
  have h := appendList (some ⟨b, 0, none⟩) 1 [x] w (Rd.cell1 hc) (by simpa using hx) (by simp)
  rw [encL_one] at h
  refine h.mono ?_
  rintro e w' ⟨v, rfl, hown, hb⟩
  obtain ⟨A2, c2, rfl, _, _, hr⟩ := own_rd hown
  exact ⟨A2, c2, rfl, hr, hb⟩

/-- what lay in memory then lies there now -/
def Keeps (w0 W : World) : Prop := Below w0.heap.size w0 W
theorem Keeps.drew {w0 W : World} (h : Keeps w0 W) : Keeps w0 W.drew := Below.drew (B := w0.heap.size) h
theorem Keeps.alloc {w0 W : World} (h : Keeps w0 W) (o : Obj) : Keeps w0 (W.alloc o) := Below.alloc (B := w0.heap.size) h (Below.size h) o

theorem uv_step {x l : Nat} (h0 : 0 < x) (hl : l < 128) : Lib.uvarint (128 * x + l) = (l + 128).toUInt8 :: Lib.uvarint x := by
  rw [Lib.uvarint_big (by omega), show (128 * x + l) % 128 = l by omega, show (128 * x + l) / 128 = x by omega]

theorem bc_cons (n : Nat) (hn : n < 256) (bs : List UInt8) : bc (n.toUInt8 :: bs) = Value.int .u8 (n : Int) :: bc bs := by
  simp only [bc, Lib.byteCells, List.map_cons]
  rw [Lib.toUInt8_toNat hn]

theorem callOne (l : Nat) (L : ByteArray) (hB : ∀ W g, W.cell? ⟨g, 0, none⟩ = some (.int .u8 (l : Int)) → (convert 23 9 (.slice (some ⟨g, 0, none⟩) 1 1)).run Try.prog W = .ok (.string L) W) (w1 : World) (y : Nat) (hy : y < 18446744073709551616) (X : ByteArray) (hX : X = ⟨(Lib.uvarint y).toArray⟩) (n : Nat) (hn : (Lib.uvarint y).length = n) (z : Int) (hz : z = (y : Int)) (g : Nat) (W : World) (hk : Keeps w1 W) (hc : W.cell? ⟨g, 0, none⟩ = some (.int .u64 z)) :
    Calls Try.prog 20 #[.slice (some ⟨g, 0, none⟩) 1 1] W fun e w' => ∃ A2 c2, e = .returned (.slice A2 n c2) ∧ Keeps w1 w' ∧ Keeps w' w' ∧ (∀ W', Keeps w' W' → (convert 23 9 (.slice A2 n c2)).run Try.prog W' = .ok (.string X) W') ∧ (∀ g : Nat, W.cell? ⟨g, 0, none⟩ = some (.int .u8 (l : Int)) → (convert 23 9 (.slice (some ⟨g, 0, none⟩) 1 1)).run Try.prog w' = .ok (.string L) w') ∧ (∀ p : Addr, p.block < W.heap.size → w'.cell? p = W.cell? p) := by
  subst hX hn hz
  refine (appendOne y g hy W hc).mono ?_
  rintro e w' ⟨A2, c2, rfl, hr, hb⟩
  refine ⟨A2, c2, rfl, ?_, Below.refl _ _, fun W' hW' => conv_string (hr.below hW') c2, fun g hg => hB w' g ((hb.cell (p := ⟨g, 0, none⟩) (World.block_lt_of_cell? W ⟨g, 0, none⟩ hg)).trans hg), fun p hp => hb.cell hp⟩
  exact Below.trans (B := w1.heap.size) hk (hb.mono (Below.size hk))

set_option maxHeartbeats 4000000 in
set_option maxRecDepth 100000 in
theorem walkFnUvarintStep (x low : Nat) (w : World) (hx : x < 18446744073709551616) (hlow : low < 256) :
    Calls Try.prog 8 #[.int .u64 x, .int .u8 low] w fun e w' => e = .returned (.bool true) ∧ Below w.heap.size w w' := by
  by_cases hx0 : x = 0
  · subst hx0
    go_enter Try.func8, Try.ntmps8
    go_wp2
    go_ret
    exact ⟨rfl, Below.refl _ _⟩
  have hx0' : ((x : Int) == 0) = false := beq_eq_false_iff_ne.2 (by omega)
  by_cases hbig : 144115188075855872 ≤ x
  · have hge : ((144115188075855872 : Int) ≤ (x : Int)) = True := eq_true (by omega)
    have HB := Lib.hid hbig
    have HX := Lib.hid hx
    clear hbig hx
    go_enter Try.func8, Try.ntmps8
    go_wp2
    go_ret
    exact ⟨rfl, Below.refl _ _⟩
  have hxl : x < 144115188075855872 := by omega
  have hm : ∃ l : Nat, l < 128 ∧ ((low : Int) % 128) = l := ⟨low % 128, by omega, by omega⟩
  obtain ⟨l, hl, hlm⟩ := hm
  have hge : ((144115188075855872 : Int) ≤ (x : Int)) = False := eq_false (by omega)
  have HXL := Lib.hid hxl
  have HX := Lib.hid hx
  clear hbig hx hxl
  go_enter Try.func8, Try.ntmps8
  go_wp2_with fail
  refine (appendOne x (w.heap.size + 1) HX.out _ ?_).mono ?_
  · simp
  rintro e w1 ⟨A1, c1, rfl, hr1, hb1⟩
  rename_i hK
  have hown : Hid (w1.ownsRow w.heap.size 5 1 (.slice (some ⟨w.heap.size, 0, none⟩) 1 1) 1 [.int .u8 ((l : Int) + 128)]) :=
    Lib.hid (own_below (own_lit1 w 5 (.int .u8 ((l : Int) + 128))) ((Below.alloc (Below.refl _ _) (Nat.le_refl _) _).trans (hb1.mono (by simp))))
  have B1 : Hid (Below w.heap.size w w1) := Lib.hid ((((Below.refl _ _).alloc (Nat.le_refl _) _).alloc (by simp) _).trans (hb1.mono (by simp; omega)))
  have hul := Lib.uvarint_length64 HX.out
  have HR1 := Lib.hid hr1
  clear hr1 hb1
  refine hK _ _ ?_
  refine wpList_app _ rfl (.tmp 16) (.tmp 19) rfl w.heap.size _ _ _ rfl hown.out A1 (Lib.uvarint x).length c1 (bc (Lib.uvarint x)) rfl HR1.out (bc_length _) (bc_one _) ?b1 ?b2 ?_
  case b1 => omega
  case b2 => exact B1.out.size
  intro v2 w2 hown2 hg2
  have B2 := Lib.hid (below_own B1.out hown.out B1.out.size hg2)
  obtain ⟨A2, c2, rfl, _, _, hr2⟩ := own_rd hown2
  have hx1 : 0 < x := by omega
  have hr2' : Rd w2 A2 (bc (Lib.uvarint (128 * x + l))) := by
    rw [uv_step hx1 hl, bc_cons _ (by omega)]
    exact hr2
  have hn : (Lib.uvarint (128 * x + l)).length = 1 + (Lib.uvarint x).length := by rw [uv_step hx1 hl, List.length_cons, Nat.add_comm]
  have hcvW : ∀ W, Keeps w2 W → (convert 23 9 (.slice A2 (1 + (Lib.uvarint x).length) c2)).run Try.prog W = .ok (.string ⟨(Lib.uvarint (128 * x + l)).toArray⟩) W := fun W hW => by
    have h := conv_string (hr2'.below hW) c2
    rw [hn] at h
    exact h
  have hcvB : ∀ W g, W.cell? ⟨g, 0, none⟩ = some (.int .u8 (l : Int)) → (convert 23 9 (.slice (some ⟨g, 0, none⟩) 1 1)).run Try.prog W = .ok (.string ⟨(Lib.uvarint l).toArray⟩) W := fun W g hc => by
    have h := conv_string (bs := Lib.uvarint l) (W := W) (A := some ⟨g, 0, none⟩) (by rw [Lib.uvarint_small hl, bc_cons _ (by omega)]; exact Rd.cell1 hc) 1
    rw [Lib.uvarint_small hl] at h ⊢
    exact h
  have HC1 := Lib.hid (callOne l _ hcvB w2 (128 * x + l) (by have := HXL.out; omega) ⟨(Lib.uvarint (128 * x + l)).toArray⟩ rfl _ hn (128 * (x : Int) + (l : Int)) (by omega))
  have HC2 := Lib.hid (callOne l _ hcvB w2 l (by omega) ⟨(Lib.uvarint l).toArray⟩ rfl _ rfl (l : Int) rfl)
  have hk0 : Keeps w2 w2 := Below.refl _ _
  have hk1 : ∀ o, Keeps w2 (w2.alloc o).drew := fun o => (Keeps.alloc (Below.refl _ _) o).drew
  have hk2 : Keeps w2 w2.drew := Keeps.drew (Below.refl _ _)
  have hkD : ∀ w0 W, Keeps w0 W → Keeps w0 W.drew := fun w0 W h => h.drew
  have hw1 : IntKind.u64.wrap (128 * (x : Int)) = 128 * (x : Int) := by have := HXL.out; simp [IntKind.wrap, IntKind.signed, IntKind.bits]; omega
  have hw2 : IntKind.u64.wrap (l : Int) = (l : Int) := by simp [IntKind.wrap, IntKind.signed, IntKind.bits]; omega
  have hw3 : IntKind.u64.wrap (128 * (x : Int) + (l : Int)) = 128 * (x : Int) + (l : Int) := by have := HXL.out; simp [IntKind.wrap, IntKind.signed, IntKind.bits]; omega
  have hkA : ∀ w0 W o, Keeps w0 W → Keeps w0 (W.alloc o) := fun w0 W o h => h.alloc o
  clear hr2 hr2' hown2 hg2 hown HR1 hn
  generalize ByteArray.mk (Lib.uvarint (128 * x + l)).toArray = X at *
  generalize ByteArray.mk (Lib.uvarint l).toArray = L at *
  generalize (Lib.uvarint l).length = nl at *
  generalize (Lib.uvarint x).length = nx at *
  go_wp2
  go_region_with (go_at_call 20; first
    | (refine (HC1.out _ _ ?_ ?_).mono ?_; (repeat (first | assumption | apply hkD | apply hkA)); go_simp; rintro e w3 ⟨A3, c3, rfl, hK3, hk3, hcv3, hcl3, hcm3⟩)
    | (refine (HC2.out _ _ ?_ ?_).mono ?_; (repeat (first | assumption | apply hkD | apply hkA)); go_simp; rintro e w4 ⟨A4, c4, rfl, hK4, hk4, hcv4, hcl4, hcm4⟩))
  all_goals
    go_wp2
    go_ret
    refine ⟨?_, B2.out.trans (Below.mono (B := w2.heap.size) ?_ B2.out.size)⟩
    · go_simp
    · show Keeps w2 _
      repeat (first | assumption | apply hkD | apply hkA)
end Go.Proofs.Ytnlndimojibimaa
