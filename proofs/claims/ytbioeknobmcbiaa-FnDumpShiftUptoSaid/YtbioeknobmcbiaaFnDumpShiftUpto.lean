/-
  What is proved here: the given statement of FnDumpShift (its second form), for every input that it speaks of: the law returns true, and its arguments read as before. Conditions: none but those of the given statement.
-/
import Derived.Test.YtbioeknobmcbiaaFrame
import Derived.Test.YtbioeknobmcbiaaShift
namespace Go.Proofs.Ytbioeknobmcbiaa.fnDumpShiftUpto
open Go.ChangeShapes Go.WideShapes Go.ChangeAt Go.RowKit
set_option linter.unusedVariables false

theorem contract (H : Type) (enc : TypeId × Value → H) (W : World) (base : Nat) (args : Array Value) (ds gs : List (DataW H)) (before : List MemPlace)
    (hval : ∀ (j : Nat) t v, Try.f10.params[j]? = some t → args[j]? = some v → Value.okWide Try.prog W .any base t v)
    (hW : DataW.Whole enc Try.prog Try.f10.params.toList Rows.fnDumpShiftSpec.vars false W args.toList ds gs before) (hk : Rows.uptoSmall H (ds ++ gs) = true) :
    Calls Try.prog 10 args W fun e W' => ∃ v, e = .returned v ∧ Rows.fnDumpShiftSpec.post enc Try.prog Try.f10 false true false false W args v W' := by
  have hW' := hW
  obtain ⟨p, q, hA0, hV, rfl, hfz, hnd⟩ := hW
  have hA : DataW.TrodAll enc Try.prog W 0 (fun _ => true) true Try.f10.params.toList args.toList ds p := hA0
  rw [Try.params10] at hA hval
  obtain ⟨v0, vs0, d0, ds0, p0, q0, hargs, rfl, rfl, h0, r0⟩ := trodAll_cons hA
  obtain ⟨v1, vs1, d1, ds1, p1, q1, rfl, rfl, rfl, h1, r1⟩ := trodAll_cons r0
  obtain ⟨rfl, rfl, rfl⟩ := trodAll_nil r1
  obtain rfl : args = #[v0, v1] := by cases args; simp_all
  obtain ⟨rfl, rfl⟩ := trodVars_none hV
  obtain ⟨a0, len0, cap0, rfl⟩ := okWide_slice Try.underlying25 (hval 0 25 v0 rfl rfl)
  have k0 := h0
  obtain ⟨zs0, hl0, hrd0, hw0, hd0, lt0, hcp0⟩ := open_row Try.underlying25 Try.underlying5 (by kernel_rfl) h0
  have sz0 : len0 ≤ 1048576 := len_upto hd0 hk (by simp)
  obtain ⟨ns0, hn0, hr0⟩ := as_u8 hrd0 hw0
  rw [hl0] at hn0
  subst hn0
  obtain ⟨a1, len1, cap1, rfl⟩ := okWide_slice Try.underlying25 (hval 1 25 v1 rfl rfl)
  have k1 := h1
  obtain ⟨zs1, hl1, hrd1, hw1, hd1, lt1, hcp1⟩ := open_row Try.underlying25 Try.underlying5 (by kernel_rfl) h1
  have sz1 : len1 ≤ 1048576 := len_upto hd1 hk (by simp)
  obtain ⟨ns1, hn1, hr1⟩ := as_u8 hrd1 hw1
  rw [hl1] at hn1
  subst hn1
  clear hA0
  refine (walkFnDumpShift a0 cap0 ns0 a1 cap1 ns1 W hr0 hcp0 (by omega) hr1 hcp1 (by omega)).mono fun e W' ⟨he, bel⟩ => ?_
  subst he
  exact ⟨_, rfl, _, _, _, [], _, [], hW', trodAll_mk1 (shut_bool Try.underlying4 _), (trodAll_cons_mk (Below.trod laidOut (by kernel_rfl) (of_decide_eq_true (by kernel_rfl)) k0 bel lt0) (trodAll_cons_mk (Below.trod laidOut (by kernel_rfl) (of_decide_eq_true (by kernel_rfl)) k1 bel lt1) trodAll_mk0)), rfl, bel.frame _, fun h => by cases h⟩

set_option maxRecDepth 100000 in
theorem lifted (os : Os) (started : os.Started) (H : Type) (enc : TypeId × Value → H) (F : Stop.Interp) :
    ReturnsInHanded {} Try.checked os 10 .any ((Rows.OpenSpec.upto Rows.fnDumpShiftSpec).pre6 enc Try.prog Try.f10 Rows.fnDumpShiftUptoRow.domain false) (((Rows.OpenSpec.upto Rows.fnDumpShiftSpec).at F).post enc Try.prog Try.f10 false true false false) := by
  refine returnsInHanded_of_cond (C := Try.checked) (s := Rows.OpenSpec.upto Rows.fnDumpShiftSpec) (k := Rows.uptoSmall) rfl own started (by kernel_rfl) Try.func10
    (OpenSpec.witness (enc := enc) (C := Try.checked) (s := Rows.OpenSpec.upto Rows.fnDumpShiftSpec) (k := Rows.uptoSmall) rfl false ⟨#[], #[.slice none 0 0, .slice none 0 0], []⟩ 8 (by kernel_rfl) (by kernel_rfl) (by kernel_rfl)
      (x := ([.nil, .nil], [], [])) (by kernel_rfl) rfl (by kernel_rfl)) ?_
  intro W base args ds gs before hval hW _ hk _
  exact contract H enc W base args ds gs before hval hW hk

theorem proved : Rows.FnDumpShiftUptoSaid :=
  OpenClaim.holds_of_cond 10 Try.f10 rfl rfl rfl rfl rfl rfl rfl ⟨rfl, rfl, rfl, rfl, rfl⟩ rfl rfl rfl rfl rfl (by kernel_rfl) Try.func10 (by kernel_rfl)
    (of_decide_eq_true (by kernel_rfl)) (by unfold Func.isWrapper; first | (rw [if_pos (by decide +kernel)]; kernel_rfl) | (rw [if_neg (by decide +kernel)]; exact ⟨rfl, rfl⟩))
    (fun os started H enc _ F => lifted os started H enc F)
#print axioms proved
end Go.Proofs.Ytbioeknobmcbiaa.fnDumpShiftUpto
