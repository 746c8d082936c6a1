/-
  What is proved here: spec.Undump reads the bytes of a dump back. Conditions: at most 1048576 bytes.
-/
import Derived.Test.YtbioeknobmcbiaaRoads
namespace Go.Proofs.Ytbioeknobmcbiaa
open Go.RowKit

theorem hexd_toNat (n : Nat) : (hexd n).toNat = if n % 16 < 10 then 48 + n % 16 else 87 + n % 16 := by
  have e : ∀ m : Fin 16, (hexd m.1).toNat = if m.1 < 10 then 48 + m.1 else 87 + m.1 := by decide +kernel
  have h := e ⟨n % 16, Nat.mod_lt _ (by decide)⟩
  simp only [hexd_mod] at h
  exact h
set_option maxHeartbeats 1000000 in
theorem value_ (w : World) (n : Nat) : Calls Try.prog 25 #[.int .u8 ((hexd n).toNat : Int)] w fun e w' => e = .returned (.int .i64 ((n % 16 : Nat) : Int)) ∧ w = w' := by
  have h := hexd_toNat n
  have hm : n % 16 < 16 := by omega
  generalize n % 16 = m at *
  generalize (hexd n).toNat = z at *
  by_cases h10 : m < 10
  · rw [if_pos h10] at h
    have h1 : (48 : Int) ≤ (z : Int) := by omega
    have h2 : (z : Int) ≤ 57 := by omega
    have HZ := Lib.hid h
    clear h
    go_enter Try.func25, Try.ntmps25
    go_wp2
    go_ret
    exact ⟨ret_int (by have := HZ.out; omega), rfl⟩
  · rw [if_neg h10] at h
    have h1 : (48 : Int) ≤ (z : Int) := by omega
    have h2 : ¬ (z : Int) ≤ 57 := by omega
    have h3 : (97 : Int) ≤ (z : Int) := by omega
    have h4 : (z : Int) ≤ 102 := by omega
    have HZ := Lib.hid h
    clear h
    go_enter Try.func25, Try.ntmps25
    go_wp2
    go_ret
    exact ⟨ret_int (by have := HZ.out; omega), rfl⟩

theorem body_at (a : Nat) (L z : List UInt8) (h : L.length ≤ 16) (j : Nat) (hj : j < 62 + L.length) : ∃ x : UInt8, x ≠ 10 ∧ (lineT a L ++ z)[j]? = some x := by
  have hb := bodyT_len a L h
  have hlt : j < (bodyT a L).length := by omega
  refine ⟨(bodyT a L)[j], noNl_body a L _ (List.getElem_mem hlt), ?_⟩
  rw [lineT_body, List.append_assoc, List.getElem?_append_left hlt, List.getElem?_eq_getElem hlt]
theorem nl_at (a : Nat) (L z : List UInt8) (h : L.length ≤ 16) : (lineT a L ++ z)[62 + L.length]? = some 10 := by
  have hb := bodyT_len a L h
  rw [lineT_body, List.append_assoc, List.getElem?_append_right (by omega), hb, Nat.sub_self]
  rfl
theorem bstr_at {l : List UInt8} {j : Nat} {x : UInt8} (h : l[j]? = some x) : ∃ hj : j < (bstr l).size, (bstr l)[j] = x := by
  obtain ⟨hj, e⟩ := List.getElem?_eq_some_iff.1 h
  exact ⟨by rw [bstr_size]; exact hj, e⟩

theorem bstr_cut (L : List UInt8) (i j : Nat) : (bstr L).extract i j = bstr ((L.take j).drop i) := by
  apply ByteArray.ext
  simp [List.drop_take]
theorem below_dr1 {B : Nat} {a w : World} (h : Below B a w) : Below B a w.drew := ⟨h.os, h.tape, h.output, h.size, h.block⟩
theorem valueL (w : World) (x : UInt8) (n m : Nat) (hx : x = hexd n) (hm : n % 16 = m) : Calls Try.prog 25 #[.int .u8 (x.toNat : Int)] w fun e w' => e = .returned (.int .i64 (m : Int)) ∧ w' = w := by
  subst hx; subst hm
  exact (value_ w n).mono fun _ _ h => ⟨h.1, h.2.symm⟩
theorem rd_one (w : World) (o : Value) (e : TypeId) : Rd (w.alloc (.cells #[o] e)) (some ⟨w.heap.size, 0, none⟩) [o] := by
  refine .inr ⟨w.heap.size, 0, rfl, by simp, fun j u hu => ?_⟩
  have := cell_one (w := w) (e := e) j u hu
  rwa [addr_add] at this

set_option maxHeartbeats 1000000 in
set_option maxRecDepth 100000 in
theorem undump (w : World) (ds : List UInt8) (hl : ds.length ≤ 1048576) :
    Calls Try.prog 16 #[.string (bstr (dumpFrom 0 ds))] w fun e w' => ∃ v, e = .returned (.tuple #[v, .bool true]) ∧ w'.ownsRow w.heap.size 5 1 v ds.length (bc ds) ∧ Below w.heap.size w w' := by
  have HST := Lib.hid (own_lit0 w 5)
  go_enter Try.func16, Try.ntmps16
  go_wp2
  go_loopg [0, 4] ds.length (fun k t o wr => ∃ (a : Nat) (pre rest : List UInt8), ds = pre ++ rest ∧ k = rest.length ∧ t = .string (bstr (dumpFrom a rest)) ∧ wr.ownsRow w.heap.size 5 1 o pre.length (bc pre) ∧ Below w.heap.size w wr)
  case atStart => exact ⟨0, [], ds, rfl, rfl, rfl, HST.out, (Below.refl _ _).alloc (Nat.le_refl _) _⟩
  case round =>
    clear HST
    obtain ⟨a, pre, rest, hds, hk, rfl, hown, hbw⟩ := hrel
    have HO := Lib.hid hown
    have HB := Lib.hid hbw
    have hlen : pre.length + rest.length ≤ 1048576 := by rw [hds] at hl; simpa using hl
    have HDS := Lib.hid hds
    have HK := Lib.hid hk
    obtain ⟨A1, c1, rfl, _, _, _⟩ := own_rd hown
    clear hown hbw hds hk
    by_cases h0 : rest.length = 0
    · have hr0 : rest = [] := List.eq_nil_of_length_eq_zero h0
      subst hr0
      have HX := Lib.hid (show bstr (dumpFrom a []) = ⟨#[]⟩ by rw [dump_nil])
      rw [HX.out]
      have HF := Lib.hid (show ds = pre by have := HDS.out; rwa [List.append_nil] at this)
      go_wp2
      go_ret2
      exact ⟨_, rfl, by rw [HF.out]; exact HO.out, HB.out⟩
    · have HT := Lib.hid (dump_step a rest h0)
      have hL16 : (rest.take 16).length ≤ 16 := List.length_take_le _ _
      have hL0 : 1 ≤ (rest.take 16).length := by rw [List.length_take]; omega
      obtain ⟨L, hL⟩ : ∃ L, rest.take 16 = L := ⟨_, rfl⟩
      obtain ⟨T, hT⟩ : ∃ T, bstr (dumpFrom a rest) = T := ⟨_, rfl⟩
      have hTs : T.size = 63 + L.length + (dumpFrom (a + 16) (rest.drop 16)).length := by
        rw [← hT, bstr_size, HT.out, List.length_append, lineT_len _ _ hL16, hL]
      have htl := dump_len_le (a + 16) (rest.drop 16)
      rw [List.length_drop] at htl
      rw [hL] at hL16 hL0
      have HL := Lib.hid hL
      have HTT := Lib.hid hT
      have hts1 : 63 + L.length ≤ T.size := by omega
      have hts2 : T.size ≤ 90000000 := by omega
      have HTS := Lib.hid hTs
      rw [hT]
      clear hL hT hTs htl
      obtain ⟨m, hm⟩ : ∃ m, L.length = m := ⟨_, rfl⟩
      have HM := Lib.hid hm
      rw [hm] at hL16 hL0 hts1
      clear hm
      go_wp2
      go_loop [5] (fun n => ∃ j : Nat, j ≤ 62 + m ∧ n = .int .i64 j) (fun n => 62 + m - (intOf n).toNat)
      case atStart => exact ⟨0, Nat.zero_le _, rfl⟩
      case round =>
        obtain ⟨j, hj, rfl⟩ := hrel
        have hjT : j < T.size := by omega
        by_cases hlt : j < 62 + m
        · obtain ⟨x, hx10, hx⟩ := body_at a L (dumpFrom (a + 16) (rest.drop 16)) (by rw [HM.out]; exact hL16) j (by rw [HM.out]; exact hlt)
          have hTx : T[j] = x := by
            have e := HTT.out
            subst e
            rw [← HL.out, ← HT.out] at hx
            exact (bstr_at hx).2
          have hx1 : ((x.toNat : Int) == 10) = false := by
            rw [beq_eq_false_iff_ne]
            intro e
            exact hx10 (UInt8.toNat_inj.1 (by simpa using (show x.toNat = 10 by omega)))
          clear hx hx10
          go_wp2
          go_round
          case rel => exact ⟨j + 1, by omega, by go_num⟩
          case measure => simp [intOf]; omega
        · have hTx : T[j] = 10 := by
            have e := HTT.out
            have hx := nl_at a L (dumpFrom (a + 16) (rest.drop 16)) (by rw [HM.out]; exact hL16)
            rw [HM.out, show 62 + m = j by omega] at hx
            subst e
            rw [← HL.out, ← HT.out] at hx
            exact (bstr_at hx).2
          have hcount : (j : Int) - 62 = (m : Int) := by omega
          have hjT2 : ((j : Int) == (T.size : Int)) = false := by rw [beq_eq_false_iff_ne]; omega
          have HJ := Lib.hid (show j = 62 + m by omega)
          have hm1 : ¬ (m : Int) < 1 := by omega
          have hm16 : ¬ (16 : Int) < (m : Int) := by omega
          go_wp2
          clear hTx hcount hjT2 hm1 hm16
          go_loopw [4, 7] (fun o i wx => ∃ q : Nat, q ≤ m ∧ i = .int .i64 q ∧ wx.ownsRow w.heap.size 5 1 o (pre.length + q) (bc (pre ++ L.take q)) ∧ Below w.heap.size w wx) (fun _ i _ => m - (intOf i).toNat)
          case atStart => exact ⟨0, Nat.zero_le _, rfl, by rw [List.take_zero, List.append_nil]; exact HO.out, HB.out⟩
          case round =>
            clear HO HB
            obtain ⟨q, hq, rfl, hown, hbw⟩ := hrel
            have HO := Lib.hid hown
            have HB := Lib.hid hbw
            obtain ⟨A2, c2, rfl, _, _, _⟩ := own_rd hown
            clear hown hbw
            by_cases hqm : q < m
            · obtain ⟨d, hd⟩ : ∃ d, L[q]? = some d := ⟨_, List.getElem?_eq_getElem (by rw [HM.out]; exact hqm)⟩
              have hdig := line_at a L (by rw [HM.out]; exact hL16) q d hd (dumpFrom (a + 16) (rest.drop 16))
              obtain ⟨p, hp⟩ : ∃ p, 10 + 3 * q + q / 8 = p := ⟨_, rfl⟩
              have hpi : 10 + 3 * (q : Int) + (q : Int) / 8 = (p : Int) := by omega
              have hpT : p + 1 < T.size := by omega
              rw [hp] at hdig
              have hTp : T[p] = hexd (d.toNat / 16) := by
                have e := HTT.out
                subst e
                rw [← HL.out, ← HT.out] at hdig
                exact (bstr_at hdig.1).2
              have hTp1 : T[p + 1] = hexd d.toNat := by
                have e := HTT.out
                subst e
                rw [← HL.out, ← HT.out] at hdig
                exact (bstr_at hdig.2).2
              obtain ⟨x1, hx1⟩ : ∃ x, hexd (d.toNat / 16) = x := ⟨_, rfl⟩
              obtain ⟨x2, hx2⟩ : ∃ x, hexd d.toNat = x := ⟨_, rfl⟩
              obtain ⟨hi, hhi⟩ : ∃ h, d.toNat / 16 % 16 = h := ⟨_, rfl⟩
              obtain ⟨lo, hlo⟩ : ∃ h, d.toNat % 16 = h := ⟨_, rfl⟩
              rw [hx1] at hTp
              rw [hx2] at hTp1
              have HX1 := Lib.hid hx1.symm
              have HX2 := Lib.hid hx2.symm
              have HHI := Lib.hid hhi
              have HLO := Lib.hid hlo
              have hdl := d.toNat_lt
              have HSUM := Lib.hid (show 16 * hi + lo = d.toNat by omega)
              have hhi16 : hi < 16 := by omega
              have hlo16 : lo < 16 := by omega
              have HDD := Lib.hid hd
              have hpt : ((p : Int) + 1).toNat = p + 1 := by omega
              have hp0 : (0 : Int) ≤ (p : Int) := by omega
              have hp1 : (0 : Int) ≤ (p : Int) + 1 := by omega
              have hpp : (p : Int) < (T.size : Int) := by omega
              have hpp1 : (p : Int) + 1 < (T.size : Int) := by omega
              have hwr : IntKind.i64.wrap ((p : Int) + 1) = (p : Int) + 1 := IntWalk.i64_in _ (by omega)
              clear hdig hp hx1 hx2 hhi hlo hdl hd
              go_wp2
              refine wp_region_still_lit (by kernel_rfl) (by kernel_rfl) ?_
              repeat still_step
              still_call (valueL _ x1 _ hi HX1.out HHI.out)
              repeat still_step
              still_call (valueL _ x2 _ lo HX2.out HLO.out)
              repeat still_step
              refine wpStill_nil ?_
              clear hwr hpt hp0 hp1 hpp hpp1 hTp hTp1 hpi
              go_upto_if 66 with fail
              refine gen_wp (fun x => x.ownsRow w.heap.size 5 1 (.slice A2 (pre.length + q) c2) (pre.length + q) (bc (pre ++ L.take q)) ∧ Below w.heap.size w x) ⟨HO.out, below_dr1 HB.out⟩ ?_
              clear HO HB
              rintro w5 ⟨hown, hbw⟩
              have HO := Lib.hid hown
              have HB := Lib.hid hbw
              clear hown hbw
              go_wp2_with (at_builtin; refine wpList_app _ rfl _ _ rfl w.heap.size _ (pre.length + q) (bc (pre ++ L.take q)) rfl (HO.out.alloc _) (some ⟨w5.heap.size, 0, none⟩) 1 1 [Value.int .u8 (16 * (hi : Int) + (lo : Int))] rfl (rd_one w5 _ _) rfl (by intro u hu; simp at hu; subst hu; rfl) (by omega) (by simp; have := HB.out.size; omega) ?_; intro v1 w1 hown1 hg1 hm1; have HO1 := Lib.hid hown1; have HB1 := Lib.hid ((HB.out.alloc HB.out.size _).grown hg1 (by simp; have := HB.out.size; omega) (fun j hj => (own_lt HO.out j hj).1)); clear hown1 hg1 hm1)
              go_roundw
              case rel =>
                refine ⟨q + 1, by omega, by go_num, ?_, HB1.out⟩
                have h := HO1.out
                have e : [Value.int .u8 (16 * (hi : Int) + (lo : Int))] = bc [d] := by
                  show _ = [Value.int .u8 (d.toNat : Int)]
                  have hs := HSUM.out
                  rw [show (16 * (hi : Int) + (lo : Int)) = (d.toNat : Int) by omega]
                rw [e, ← bc_append, List.append_assoc, ← take_snoc HDD.out] at h
                exact h
              case measure => simp [intOf]; omega
            · obtain rfl : q = m := by omega
              have hj1 : ¬ (T.size : Int) < (j : Int) + 1 := by omega
              have hj2 : (j : Int) + 1 ≤ (T.size : Int) := by omega
              have hex : T.extract (j + 1) T.size = bstr (dumpFrom (a + 16) (rest.drop 16)) := by
                rw [HJ.out, ← HTT.out, bstr_cut, bstr_size, List.take_length, HT.out, HL.out]
                have e : 62 + q + 1 = (lineT a L).length := by rw [lineT_len a L (by rw [HM.out]; exact hL16), HM.out]; omega
                rw [e, List.drop_left]
              go_wp2
              go_roundg (rest.drop 16).length
              case measure => rw [HK.out, List.length_drop]; omega
              case rel =>
                refine ⟨a + 16, pre ++ rest.take 16, rest.drop 16, by rw [List.append_assoc, List.take_append_drop]; exact HDS.out, rfl, rfl, ?_, HB.out⟩
                have h := HO.out
                rw [List.take_of_length_le (by rw [HM.out]; omega), ← HL.out] at h
                rw [List.length_append, HL.out, HM.out, ← HL.out]
                exact h
end Go.Proofs.Ytbioeknobmcbiaa
