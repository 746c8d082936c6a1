/-
  What is proved here: spec.Line returns a line of a dump. Conditions: an address up to 1000000000000, at most 16 bytes.
-/
import Derived.Test.YtbioeknobmcbiaaShift
namespace Go.Proofs.Ytbioeknobmcbiaa
open Go.RowKit

theorem bstr_app (x y : List UInt8) : bstr x ++ bstr y = bstr (x ++ y) := by
  apply ByteArray.ext
  simp
/-- the columns, empty ones behind the bytes, up to i -/
def colsTo (ds : List UInt8) : Nat → List UInt8
  | 0 => []
  | i + 1 => colsTo ds i ++ (match ds[i]? with | some b => cellT i b | none => blankT i)
def shownTo (ds : List UInt8) (i : Nat) : List UInt8 := (ds.take i).map shownC
theorem colsTo_in (ds : List UInt8) (i : Nat) (h : i ≤ ds.length) : colsTo ds i = cols 0 (ds.take i) := by
  induction i with
  | zero => simp [colsTo, cols]
  | succ i ih =>
    have hi : ds[i]? = some (ds[i]'(by omega)) := List.getElem?_eq_getElem _
    rw [colsTo, ih (by omega), take_snoc hi, cols_append, List.length_take, Nat.zero_add, Nat.min_eq_left (by omega), hi]
    simp [cols]
theorem colsTo_out (ds : List UInt8) (j : Nat) : colsTo ds (ds.length + j) = cols 0 ds ++ blanks ds.length j := by
  induction j with
  | zero => rw [Nat.add_zero, colsTo_in ds _ (Nat.le_refl _), List.take_length]; simp [blanks]
  | succ j ih =>
    rw [← Nat.add_assoc, colsTo, ih, List.getElem?_eq_none (by omega), blanks_append ds.length j 1, List.append_assoc]
    simp [blanks]
theorem colsTo_all (ds : List UInt8) (h : ds.length ≤ 16) : colsTo ds 16 = cols 0 ds ++ blanks ds.length (16 - ds.length) := by
  have := colsTo_out ds (16 - ds.length)
  rwa [show ds.length + (16 - ds.length) = 16 by omega] at this
theorem line_all (a : Nat) (ds : List UInt8) (h : ds.length ≤ 16) : lineT a ds = digits 8 a ++ [32, 32] ++ colsTo ds 16 ++ [124] ++ shownTo ds 16 ++ [124, 10] := by
  rw [colsTo_all ds h, shownTo, List.take_of_length_le h]
  simp only [lineT, headT, List.append_assoc]

/-- the signs of a column, without the gap behind it -/
def mid3 (ds : List UInt8) (i : Nat) : List UInt8 := match ds[i]? with | some b => [hexd (b.toNat / 16), hexd b.toNat, 32] | none => [32, 32, 32]
theorem colsTo_succ (ds : List UInt8) (i : Nat) : colsTo ds (i + 1) = colsTo ds i ++ (mid3 ds i ++ gap i) := by
  rw [colsTo, mid3]
  cases ds[i]? <;> rfl
theorem mid3_length (ds : List UInt8) (i : Nat) : (mid3 ds i).length = 3 := by
  rw [mid3]
  cases ds[i]? <;> rfl
theorem colsTo_length (ds : List UInt8) (i : Nat) : (colsTo ds i).length ≤ 4 * i := by
  induction i with
  | zero => simp [colsTo]
  | succ i ih =>
    rw [colsTo_succ, List.length_append, List.length_append, mid3_length]
    have : (gap i).length ≤ 1 := by unfold gap; split <;> simp
    omega
theorem shownTo_succ {ds : List UInt8} {i : Nat} {d : UInt8} (h : ds[i]? = some d) : shownTo ds (i + 1) = shownTo ds i ++ [shownC d] := by
  rw [shownTo, shownTo, take_snoc h, List.map_append]; rfl
theorem shownTo_end {ds : List UInt8} {i : Nat} (h : ds.length ≤ i) : shownTo ds (i + 1) = shownTo ds i := by
  rw [shownTo, shownTo, List.take_of_length_le (by omega), List.take_of_length_le h]
theorem shownTo_length (ds : List UInt8) (i : Nat) : (shownTo ds i).length ≤ i := by
  rw [shownTo, List.length_map, List.length_take]; omega
/-- a conversion's run under a name of its own: the walk then does not lay it open -/
theorem runF (s d : TypeId) (v : Value) : ∃ F : World → Result Value, ∀ w, (convert s d v).run Try.prog w = F w := ⟨_, fun _ => rfl⟩
/-- strings joined, the result under a name of its own -/
theorem addS {X Y : ByteArray} (x y : List UInt8) (hX : bstr x = X) (hY : bstr y = Y) (hl : x.length + y.length ≤ 1000) : ∃ Z, bstr (x ++ y) = Z ∧ ∀ w, (Op.stringOp .add X Y).run Try.prog w = .ok (.string Z) w := by
  subst hX; subst hY
  refine ⟨_, rfl, fun w => ?_⟩
  rw [run_string_add_sum w _ _ (by rw [bstr_size, bstr_size]; omega), bstr_app]
theorem digitZ (w : World) {z : Int} (n : Nat) {x : UInt8} (hz : z = (n : Int)) (hn : n ≤ 1000000000000) (hx : hexd n = x) : Calls Try.prog 29 #[.int .i64 z] w fun e w' => e = .returned (.int .u8 (x.toNat : Int)) ∧ w' = w := by
  subst hz; subst hx
  exact digit_ w n hn
theorem rd_new (w : World) (bs : List UInt8) (e : TypeId) : Rd (w.alloc (.cells (bc bs).toArray e)) (some ⟨w.heap.size, 0, none⟩) (bc bs) := by
  refine .inr ⟨w.heap.size, 0, rfl, by simp, fun j u hu => ?_⟩
  have h : (w.alloc (.cells (bc bs).toArray e)).heap[w.heap.size]? = some (.cells (bc bs).toArray e (0, 0)) := by
    show (w.heap.push _)[w.heap.size]? = _
    rw [Array.getElem?_push, if_pos rfl]
  rw [Nat.zero_add, cell_of_row _ _ _ _ _ _ h, List.getElem?_toArray]
  exact hu

set_option maxHeartbeats 2000000 in
set_option maxRecDepth 100000 in
theorem line_ (w : World) (a : Nat) (ha : a ≤ 1000000000000) (A : Option Addr) (c : Nat) (ds : List UInt8) (hr : Rd w A (bc ds)) (hl : ds.length ≤ 16) :
    Calls Try.prog 24 #[.int .i64 (a : Int), .slice A ds.length c] w fun e w' => e = .returned (.string (bstr (lineT a ds))) ∧ Below w.heap.size w w' := by
  have HR := Lib.hid hr
  clear hr
  obtain ⟨hd, hhd⟩ : ∃ hd, digits 8 a ++ [32, 32] = hd := ⟨_, rfl⟩
  have HHD := Lib.hid hhd
  have hhl : hd.length ≤ 10 := by rw [← hhd, List.length_append, digits_length]; simp
  obtain ⟨D, hD⟩ : ∃ D, bstr (digits 8 a) = D := ⟨_, rfl⟩
  obtain ⟨Z0, hZ0, hadd⟩ := addS (Y := ⟨#[32, 32]⟩) (digits 8 a) [32, 32] hD rfl (by rw [digits_length]; simp)
  rw [hhd] at hZ0
  have HD := Lib.hid hD
  have HZ0 := Lib.hid hZ0
  clear hD hZ0 hhd
  go_enter Try.func24, Try.ntmps24
  go_wp2_with fail
  refine (addressL (D := D) (n := a) rfl ha HD.out).mono ?_
  rintro e w1 ⟨rfl, hb1⟩
  have B1 := Lib.hid hb1
  clear hb1
  go_wp2
  clear hadd
  go_loopw [5, 6, 7] (fun x5 x6 x7 wr => ∃ i : Nat, i ≤ 16 ∧ x7 = .int .i64 i ∧ x5 = .string (bstr (hd ++ colsTo ds i)) ∧ x6 = .string (bstr (shownTo ds i)) ∧ Below w.heap.size w wr) (fun _ _ x7 _ => 16 - (intOf x7).toNat)
  case atStart => exact ⟨0, by omega, rfl, by rw [colsTo, List.append_nil, HZ0.out], rfl, B1.out⟩
  case round =>
    clear B1
    obtain ⟨i, hi, rfl, rfl, rfl, hbw⟩ := hrel
    have HB := Lib.hid hbw
    clear hbw
    have hcl := colsTo_length ds i
    have hsl := shownTo_length ds i
    obtain ⟨o, ho⟩ : ∃ o, hd ++ colsTo ds i = o := ⟨_, rfl⟩
    obtain ⟨sh, hsh⟩ : ∃ sh, shownTo ds i = sh := ⟨_, rfl⟩
    have hol : o.length ≤ 74 := by rw [← ho, List.length_append]; omega
    rw [hsh] at hsl
    obtain ⟨S5, hS5⟩ : ∃ S, bstr o = S := ⟨_, rfl⟩
    obtain ⟨S6, hS6⟩ : ∃ S, bstr sh = S := ⟨_, rfl⟩
    rw [ho, hsh, hS5, hS6]
    have HO := Lib.hid ho
    have HSH := Lib.hid hsh
    have H5 := Lib.hid hS5
    have H6 := Lib.hid hS6
    clear ho hsh hS5 hS6 hcl
    by_cases hi16 : i < 16
    · go_upto_if 18 with fail
      go_cut [5, 6] (fun x5 x6 wx => x5 = .string (bstr (o ++ mid3 ds i)) ∧ x6 = .string (bstr (shownTo ds (i + 1))) ∧ Below w.heap.size w wx)
      case first =>
        by_cases hlt : i < ds.length
        · obtain ⟨d, hd_⟩ : ∃ d, ds[i]? = some d := ⟨_, List.getElem?_eq_getElem hlt⟩
          obtain ⟨bp, op, rfl, hbp, hcell⟩ := (HR.out.below HB.out).at_ (bc_at hd_)
          have hki0 : (0 : Int) ≤ (i : Int) := by omega
          have hki : (i : Int) < (ds.length : Int) := by omega
          obtain ⟨x1, hx1⟩ : ∃ x, hexd (d.toNat / 16) = x := ⟨_, rfl⟩
          obtain ⟨x2, hx2⟩ : ∃ x, hexd d.toNat = x := ⟨_, rfl⟩
          obtain ⟨M, hM⟩ : ∃ M, bstr [x1, x2, 32] = M := ⟨_, rfl⟩
          obtain ⟨Z, hZ, hadd⟩ := addS o [x1, x2, 32] H5.out hM (by simp; omega)
          have HZ := Lib.hid (show bstr (o ++ mid3 ds i) = Z by rw [mid3, hd_]; show bstr (o ++ [hexd (d.toNat / 16), hexd d.toNat, 32]) = Z; rw [hx1, hx2]; exact hZ)
          have X2 := Lib.hid hx2
          have HM := Lib.hid hM
          have HDI := Lib.hid hd_
          have hdl := d.toNat_lt
          obtain ⟨q, hq⟩ : ∃ q, d.toNat / 16 = q := ⟨_, rfl⟩
          rw [hq] at hx1
          have X1 := Lib.hid hx1
          have htd : (d.toNat : Int).tdiv 16 = (q : Int) := by rw [Int.tdiv_eq_ediv_of_nonneg (by omega)]; omega
          have hwq : IntKind.i64.wrap (q : Int) = (q : Int) := IntWalk.i64_in _ (by omega)
          have hwd : IntKind.i64.wrap (d.toNat : Int) = (d.toNat : Int) := IntWalk.i64_in _ (by omega)
          have hql : q ≤ 1000000000000 := by omega
          have hdl2 : d.toNat ≤ 1000000000000 := by omega
          clear hZ hx1 hx2 hM hd_ hq
          have HN := Lib.hid (show wr.cell? ⟨bp, op + i, none⟩ = some (.int .u8 (d.toNat : Int)) from hcell)
          have hnew := World.new_ne wr ⟨bp, op + i, none⟩ hcell
          obtain ⟨FC, hFC⟩ := runF 25 9 (.slice (some ⟨wr.heap.size, 0, none⟩) 3 3)
          have hcv := conv_string (rd_new wr.drew [x1, x2, 32] 5) 3
          have hcv1 : FC (wr.alloc (.cells #[.int .u8 (x1.toNat : Int), .int .u8 (x2.toNat : Int), .int .u8 32] 5)).drew = .ok (.string M) (wr.alloc (.cells #[.int .u8 (x1.toNat : Int), .int .u8 (x2.toNat : Int), .int .u8 32] 5)).drew := by rw [← hFC, ← HM.out]; exact hcv
          have hcv2 : FC (wr.drew.alloc (.cells #[.int .u8 (x1.toNat : Int), .int .u8 (x2.toNat : Int), .int .u8 32] 5)) = .ok (.string M) (wr.drew.alloc (.cells #[.int .u8 (x1.toNat : Int), .int .u8 (x2.toNat : Int), .int .u8 32] 5)) := by rw [← hFC, ← HM.out]; exact hcv
          clear hcv
          have B2 := Lib.hid (below_dr1 HB.out)
          have tok : True := trivial
          go_wp2
          go_region_held (fun x => x.cell? ⟨bp, op + i, none⟩ = some (.int .u8 (d.toNat : Int))) (first | assumption | go_keep)
            (first
              | (go_at_call 29; have _t := tok; refine (digitZ _ q rfl hql X1.out).mono ?_; rintro e w' ⟨rfl, rfl⟩; clear tok)
              | (go_at_call 29; refine (digitZ _ d.toNat rfl hdl2 X2.out).mono ?_; rintro e w' ⟨rfl, rfl⟩))
          clear htd hwq hwd hcell hnew hFC hcv1
          go_upto_region 8 with fail
          refine gen_wp (fun x => Below w.heap.size w x) (B2.out.alloc B2.out.size _) ?_
          clear hcv2 hadd B2
          intro w3 hb3
          have B3 := Lib.hid hb3
          clear hb3
          have hc3 : w3.cell? ⟨bp, op + i, none⟩ = some (.int .u8 (d.toNat : Int)) := by
            obtain ⟨bp', op', he, _, hc⟩ := (HR.out.below B3.out).at_ (bc_at HDI.out)
            injection he with he
            injection he with he1 he2
            subst he1; subst he2
            exact hc
          by_cases hlow : d.toNat < 32
          · obtain ⟨Y, hY, hadd⟩ := addS (Y := ⟨#[46]⟩) sh [46] H6.out rfl (by simp; omega)
            have HY := Lib.hid (show bstr (shownTo ds (i + 1)) = Y by rw [shownTo_succ HDI.out, HSH.out, shownC, if_pos (.inl hlow)]; exact hY)
            have hl1 : ¬ (32 : Int) ≤ (d.toNat : Int) := by omega
            clear hY
            go_wp2
            go_meet
            rw [HZ.out, HY.out]
            exact ⟨rfl, rfl, B3.out⟩
          · by_cases hhigh : 126 < d.toNat
            · obtain ⟨Y, hY, hadd⟩ := addS (Y := ⟨#[46]⟩) sh [46] H6.out rfl (by simp; omega)
              have HY := Lib.hid (show bstr (shownTo ds (i + 1)) = Y by rw [shownTo_succ HDI.out, HSH.out, shownC, if_pos (.inr hhigh)]; exact hY)
              have hl1 : (32 : Int) ≤ (d.toNat : Int) := by omega
              have hl2 : ¬ (d.toNat : Int) ≤ 126 := by omega
              clear hY
              go_wp2
              go_meet
              rw [HZ.out, HY.out]
              exact ⟨rfl, rfl, B3.out⟩
            · obtain ⟨M1, hM1⟩ : ∃ M, bstr [d] = M := ⟨_, rfl⟩
              obtain ⟨Y, hY, hadd⟩ := addS sh [d] H6.out hM1 (by simp; omega)
              have HY := Lib.hid (show bstr (shownTo ds (i + 1)) = Y by rw [shownTo_succ HDI.out, HSH.out, shownC, if_neg (by omega)]; exact hY)
              have hl1 : (32 : Int) ≤ (d.toNat : Int) := by omega
              have hl2 : (d.toNat : Int) ≤ 126 := by omega
              have hcv := conv_string (rd_new w3 [d] 5) 1
              have hcv1 : (convert 25 9 (.slice (some ⟨w3.heap.size, 0, none⟩) 1 1)).run Try.prog (w3.alloc (.cells #[.int .u8 (d.toNat : Int)] 5)) = .ok (.string M1) (w3.alloc (.cells #[.int .u8 (d.toNat : Int)] 5)) := by rw [← hM1]; exact hcv
              clear hY hcv hM1
              go_wp2
              go_meet
              rw [HZ.out, HY.out]
              exact ⟨rfl, rfl, B3.out.alloc B3.out.size _⟩
        · obtain ⟨Z, hZ, hadd⟩ := addS (Y := ⟨#[32, 32, 32]⟩) o [32, 32, 32] H5.out rfl (by simp; omega)
          have HZ := Lib.hid (show bstr (o ++ mid3 ds i) = Z by rw [mid3, List.getElem?_eq_none (by omega)]; exact hZ)
          have HS := Lib.hid (show bstr (shownTo ds (i + 1)) = S6 by rw [shownTo_end (by omega), HSH.out]; exact H6.out)
          clear hZ
          go_wp2
          go_meet
          rw [HZ.out, HS.out]
          exact ⟨rfl, rfl, HB.out⟩
      case rest =>
        obtain ⟨rfl, rfl, hbw⟩ := hcut
        clear HB
        have HB := Lib.hid hbw
        clear hbw
        obtain ⟨S7, hS7⟩ : ∃ S, bstr (o ++ mid3 ds i) = S := ⟨_, rfl⟩
        rw [hS7]
        have H7 := Lib.hid hS7
        clear hS7
        have hml := mid3_length ds i
        by_cases hg : i = 7 ∨ i = 15
        · obtain ⟨Z, hZ, hadd⟩ := addS (Y := ⟨#[32]⟩) (o ++ mid3 ds i) [32] H7.out rfl (by simp; omega)
          have HF := Lib.hid (show bstr (hd ++ colsTo ds (i + 1)) = Z by rw [colsTo_succ, gap, if_pos hg, ← List.append_assoc, ← List.append_assoc, HO.out]; exact hZ)
          clear hZ
          rcases hg with rfl | rfl
          all_goals
            go_wp2
            go_roundw
            case rel => exact ⟨_, by decide, by go_num, by rw [HF.out], rfl, HB.out⟩
            case measure => simp [intOf]
        · have HF := Lib.hid (show bstr (hd ++ colsTo ds (i + 1)) = S7 by rw [colsTo_succ, gap, if_neg hg, List.append_nil, ← List.append_assoc, HO.out]; exact H7.out)
          have h7 : ((i : Int) == 7) = false := by rw [beq_eq_false_iff_ne]; omega
          have h15 : ((i : Int) == 15) = false := by rw [beq_eq_false_iff_ne]; omega
          go_wp2
          go_roundw
          case rel => exact ⟨i + 1, by omega, by go_num, by rw [HF.out], rfl, HB.out⟩
          case measure => simp [intOf]; omega
    · obtain rfl : i = 16 := by omega
      obtain ⟨Z1, hZ1, hadd1⟩ := addS (Y := ⟨#[124]⟩) o [124] H5.out rfl (by simp; omega)
      obtain ⟨Z2, hZ2, hadd2⟩ := addS (o ++ [124]) sh hZ1 H6.out (by simp; omega)
      obtain ⟨Z3, hZ3, hadd3⟩ := addS (Y := ⟨#[124, 10]⟩) (o ++ [124] ++ sh) [124, 10] hZ2 rfl (by simp; omega)
      have HF := Lib.hid (show bstr (lineT a ds) = Z3 by rw [line_all a ds hl, HHD.out, HO.out, HSH.out]; exact hZ3)
      clear hZ1 hZ2 hZ3
      go_wp2
      go_ret
      rw [HF.out]
      exact ⟨rfl, HB.out⟩
end Go.Proofs.Ytbioeknobmcbiaa
