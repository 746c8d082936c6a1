/-
  What is proved here: the walk of FnSignedPieces: it returns true. Conditions: at most 1048576 numbers and cuts.
-/
import Derived.Test.YtnlndimojibimaaPiecesC
namespace Go.Proofs.Ytnlndimojibimaa
open Go.RowKit

theorem info_i64P : (Try.prog.info? 2).map (fun i => (i.zero, i.size, i.bytes)) = some (some (.int .i64 0), 1, 8) := by kernel_rfl
theorem one_i64P (z : Int) : ∀ u ∈ [Value.int .i64 z], u.oneCell' = true := by
  intro u hu; rw [List.mem_singleton.1 hu]; rfl

set_option maxHeartbeats 8000000 in
set_option maxRecDepth 100000 in
theorem walkFnSignedPieces (A : Option Addr) (c : Nat) (zs : List Int) (A2 : Option Addr) (c2 : Nat) (ls : List Int) (w : World) (hr : Rd w A (ic zs)) (hz : ∀ x ∈ zs, -9223372036854775808 ≤ x ∧ x ≤ 9223372036854775807) (hl : zs.length ≤ 1048576)
    (hr2 : Rd w A2 (ic ls)) (hls : ∀ x ∈ ls, -9223372036854775808 ≤ x ∧ x ≤ 9223372036854775807) (hl2 : ls.length ≤ 1048576) :
    Calls Try.prog 13 #[.slice A zs.length c, .slice A2 ls.length c2] w fun e w' => e = .returned (.bool true) ∧ Below w.heap.size w w' := by
  obtain ⟨i0, hi, hz0, hz1, hz2⟩ := info_parts info_i64P
  have HR := Lib.hid hr
  have HZ := Lib.hid hz
  have hle := encS_length_le zs hz
  have HUS : Hid (∀ x ∈ zs.map Lib.zigzag, x < 18446744073709551616) := fun x hx => by obtain ⟨y, hy, rfl⟩ := List.mem_map.1 hx; exact Lib.zigzag_lt (HZ.out y hy).1 (HZ.out y hy).2
  clear hr hz
  go_enter Try.func13, Try.ntmps13
  go_wp2_with fail
  refine (specSigned A c zs _ HR.out HZ.out (by omega)).mono ?_
  rintro e w1 ⟨v1, rfl, hown1, hb1⟩
  obtain ⟨A1, c1, rfl, hc1, hcm1, hr1⟩ := own_rd hown1
  go_wp2_with fail
  refine (cutC A1 A2 c1 c2 (encS zs) ls w1 hr1 hc1 hcm1 (hr2.below hb1) hls (by omega) (by omega)).mono ?_
  rintro e w2 ⟨v2, ps, bss, rfl, hown2, hparts, hflat, hb2, hpl⟩
  obtain ⟨Ap, cp, rfl, _, _, hrp⟩ := own_rd hown2
  have B2 : Hid (Below w.heap.size w w2) := hb1.trans (hb2.mono hb1.size)
  have HP := Lib.hid hparts
  have HRP := Lib.hid hrp
  have HFL := Lib.hid hflat
  clear hown1 hr1 hb1 hown2 hb2 hparts hrp hflat hr2 hls
  have hpsb : ps.length = bss.length := HP.out.1
  have HPB := Lib.hid hpsb
  clear hpsb
  have HW0 : Hid (Wait (zs.map Lib.zigzag) 0 [] (bss.drop 0).flatten) := ⟨by rw [List.nil_append, List.drop_zero, List.drop_zero, HFL.out]; rfl, Nat.zero_le _, .inl rfl⟩
  go_wp2
  go_loopw [5, 6, 18] (fun g b i wr => ∃ (j k : Nat) (B : List UInt8), i = .int .i64 j ∧ j ≤ ps.length ∧ k ≤ zs.length ∧ B.length ≤ (encS zs).length ∧ wr.ownsRow w2.heap.size 2 1 g k (ic (zs.take k)) ∧ Mid wr w2.heap.size b B ∧ Wait (zs.map Lib.zigzag) k B (bss.drop j).flatten ∧ Below w2.heap.size w2 wr)
    (fun _ _ i _ => ps.length - (intOf i).toNat)
  case atStart => exact ⟨0, 0, [], rfl, Nat.zero_le _, Nat.zero_le _, Nat.zero_le _, by simpa [ic] using World.ownsRow_nil _ _ _ _, .inl ⟨rfl, rfl⟩, HW0.out, Below.refl _ _⟩
  case round =>
    clear HW0
    obtain ⟨j, k, B, rfl, hj, hk, hBl, hown, hmid, hwait, hnx⟩ := hrel
    obtain ⟨wo, rfl⟩ : ∃ wo : World, wo = wr := ⟨_, rfl⟩
    have HO := Lib.hid hown
    have HM := Lib.hid hmid
    have HW := Lib.hid hwait
    have HN := Lib.hid hnx
    have HB := hnx.size
    clear hown hmid hwait hnx
    by_cases hlt : j < ps.length
    · obtain ⟨bp, hbp⟩ : ∃ bp, bss[j]? = some bp := ⟨_, List.getElem?_eq_getElem (by rw [← HPB.out]; exact hlt)⟩
      obtain ⟨Aq, cq, hq1, hq2, hq3, hq4⟩ := HP.out.2 j bp hbp
      obtain ⟨gp, offp, rfl, hgp, hcellp⟩ := (HRP.out.below HN.out).at_ hq1
      have HRQ := Lib.hid (hq4.below HN.out)
      have hD : (bss.drop j).flatten = bp ++ (bss.drop (j + 1)).flatten := by
        rw [List.drop_eq_getElem?_toList_append, hbp]; simp
      have HD := Lib.hid hD
      clear hD
      have hbl : B.length + bp.length ≤ (encS zs).length := by
        have h1 := congrArg List.length HW.out.1
        rw [HD.out] at h1
        have h2 : (encL ((zs.map Lib.zigzag).drop k)).length ≤ (encS zs).length := by
          have e : encS zs = encL ((zs.map Lib.zigzag).take k) ++ encL ((zs.map Lib.zigzag).drop k) := by rw [← encL_append, List.take_append_drop]; rfl
          rw [e, List.length_append]; omega
        simp only [List.length_append] at h1
        omega
      clear hq1 hq4 hbp
      obtain ⟨Ab, cb, eb, _, _, _⟩ := HM.out.rd
      have HEB := Lib.hid eb
      clear eb
      go_wp2_with (at_builtin; refine wpList_mid _ rfl _ _ rfl w2.heap.size _ B rfl HM.out Aq cq bp rfl HRQ.out (by omega) HB ?_)
      intro v6 w6 hmid6 hgr6
      have HO6 := Lib.hid (HO.out.kept hgr6 (own_mid_ne HO.out HM.out (by decide)).1)
      have HN6 : Hid (Below w2.heap.size w2 w6) := HN.out.grown hgr6 HB (fun q hq => (HM.out.lt q hq).1)
      have HM6 := Lib.hid hmid6
      have HS6 : Hid ((B ++ bp) ++ (bss.drop (j + 1)).flatten = encL ((zs.map Lib.zigzag).drop k)) := by rw [List.append_assoc, ← HD.out]; exact HW.out.1
      obtain ⟨A6, c6, e6, hc6, hcm6, _⟩ := hmid6.rd
      have hB6 : (B ++ bp).length ≤ (encS zs).length := by rw [List.length_append]; exact hbl
      rw [e6]
      rw [e6] at HM6
      have HE6 := Lib.hid e6
      clear hgr6 hmid6 e6 HO HN HM HW HD HRQ hcellp HEB hbl
      generalize B ++ bp = B6 at *
      clear HE6
      go_wp2
      go_loopw [5, 6] (fun g b wr => ∃ (k : Nat) (B : List UInt8) (Ab : Option Addr) (cb : Nat), b = .slice Ab B.length cb ∧ k ≤ zs.length ∧ B.length ≤ (encS zs).length ∧ wr.ownsRow w2.heap.size 2 1 g k (ic (zs.take k)) ∧ Mid wr w2.heap.size (.slice Ab B.length cb) B ∧ B ++ (bss.drop (j + 1)).flatten = encL ((zs.map Lib.zigzag).drop k) ∧ Below w2.heap.size w2 wr)
        (fun _ b _ => match b with | .slice _ n _ => n | _ => 0)
      case atStart => exact ⟨k, B6, A6, c6, rfl, hk, hB6, HO6.out, HM6.out, HS6.out, HN6.out⟩
      case round =>
        clear HO6 HM6 HS6 HN6 hB6 hk
        obtain ⟨k, B, Ab, cb, rfl, hk, hBl, hown, hmid, hst, hnx⟩ := hrel
        have HO := Lib.hid hown
        have HM := Lib.hid hmid
        have HS := Lib.hid hst
        have HN := Lib.hid hnx
        have HB := hnx.size
        clear hown hmid hst hnx
        by_cases hB0 : B.length = 0
        · have HW : Hid (Wait (zs.map Lib.zigzag) k B (bss.drop (j + 1)).flatten) := ⟨HS.out, by rw [List.length_map]; exact hk, .inl hB0⟩
          rw [hB0] at HM
          rw [hB0]
          go_wp2
          go_roundw
          case rel => exact ⟨j + 1, k, B, by go_num, by omega, hk, hBl, HO.out, HM.out, HW.out, HN.out⟩
          case measure => simp [intOf]; omega
        · have hBp : 0 < B.length := by omega
          obtain ⟨gb, ob, cb', ev, hcb, hcm⟩ := HM.out.some_ hBp
          injection ev with ev1 _ ev2
          subst ev1 ev2
          obtain ⟨_, _, er, _, _, hrb⟩ := HM.out.rd
          cases er
          have HRB := Lib.hid hrb
          clear hrb
          obtain ⟨x, hx, hstep⟩ := stream_step HUS.out HS.out hBp
          rcases hstep with ⟨B', hB', hS', hdec⟩ | ⟨hshort, hall, hdec⟩
          · obtain ⟨y, hy, hyx⟩ : ∃ y : Int, zs[k]? = some y ∧ (Lib.zigzag y) = x := by
              rw [List.getElem?_map] at hx
              rcases h : zs[k]? with _ | y
              · rw [h] at hx; cases hx
              · rw [h] at hx; injection hx with hx; exact ⟨y, rfl, hx⟩
            subst hyx
            have hlen : (Lib.uvarint (Lib.zigzag y)).length + B'.length = B.length := by rw [hB', List.length_append]
            have hup := Lib.uvarint_pos (Lib.zigzag y)
            have hkl : k < zs.length := by
              rcases Nat.lt_or_ge k zs.length with h | h
              · exact h
              · rw [List.getElem?_eq_none h] at hy; cases hy
            have HT := Lib.hid (take_snoc hy)
            have HS' := Lib.hid hS'
            have HDR : Hid (B.drop (Lib.uvarint (Lib.zigzag y)).length = B') := by rw [hB', List.drop_left]; rfl
            have HDEC := Lib.hid hdec
            clear hx hB' hS' hdec hy
            generalize hLen : (Lib.uvarint (Lib.zigzag y)).length = n at *
            have hnz : ((n : Int) == 0) = false := beq_eq_false_iff_ne.2 (by omega)
            clear hLen
            have hbl9 : B.length < 9223372036854775807 := by omega
            by_cases hcn : cb = n
            · have hB'0 : B' = [] := List.eq_nil_of_length_eq_zero (by omega)
              have HG := Lib.hid HM.out.gone
              subst hB'0
              subst hcn
              have hnB : cb = B.length := by omega
              subst hnB
              go_wp2_with fail
              refine (varintZ _ _ _ B y _ _ HRB.out rfl (varint_of HDEC.out)).mono ?_
              rintro e w' ⟨rfl, rfl⟩
              go_wp2_with (at_builtin; refine wpList_append_own_wide _ rfl _ _ 34 rfl w2.heap.size 2 i0 (.int .i64 0) 1 8 Try.underlying34 hi hz0 hz1 hz2 rfl (by decide) _ _ _ rfl (HO.out.alloc _) ⟨wr.heap.size, 0, none⟩ 1 1 [Value.int .i64 y] rfl rfl cell_one (one_i64P _) (by unfold maxLen; omega) (by omega) (by simp; omega) ?_)
              intro v7 w7 hown7 hgr7 _
              have R1 : Hid (w7.ownsRow w2.heap.size 2 1 v7 (k + 1) (ic (zs.take (k + 1)))) := by
                rw [HT.out, show ic (zs.take k ++ [y]) = ic (zs.take k) ++ [.int .i64 y] by simp [ic]]; exact hown7
              have hba : Below wr.heap.size wr (wr.alloc (.cells #[.int .i64 y] 2)) := (Below.refl _ _).alloc (Nat.le_refl _) _
              have R2 := Lib.hid ((HG.out.below hba).kept hgr7 (own_mid_ne (HO.out.alloc _) (HG.out.below hba) (by decide)).2)
              have R3 : Hid (Below w2.heap.size w2 w7) := (HN.out.alloc HB _).grown hgr7 (by simp; omega) (fun q hq => (HO.out.lt q hq).1)
              clear hown7 hgr7 hba
              go_wp2
              go_roundw
              case rel => exact ⟨k + 1, [], some ⟨gb, ob, none⟩, 0, by simp, by omega, by simp, R1.out, R2.out, HS'.out, R3.out⟩
              case measure => simp; omega
            · have HG := Lib.hid (HM.out.drop (n := n) (by omega))
              rw [HDR.out] at HG
              go_wp2_with fail
              refine (varintZ _ _ _ B y _ _ HRB.out rfl (varint_of HDEC.out)).mono ?_
              rintro e w' ⟨rfl, rfl⟩
              go_wp2_with (at_builtin; refine wpList_append_own_wide _ rfl _ _ 34 rfl w2.heap.size 2 i0 (.int .i64 0) 1 8 Try.underlying34 hi hz0 hz1 hz2 rfl (by decide) _ _ _ rfl (HO.out.alloc _) ⟨wr.heap.size, 0, none⟩ 1 1 [Value.int .i64 y] rfl rfl cell_one (one_i64P _) (by unfold maxLen; omega) (by omega) (by simp; omega) ?_)
              intro v7 w7 hown7 hgr7 _
              have R1 : Hid (w7.ownsRow w2.heap.size 2 1 v7 (k + 1) (ic (zs.take (k + 1)))) := by
                rw [HT.out, show ic (zs.take k ++ [y]) = ic (zs.take k) ++ [.int .i64 y] by simp [ic]]; exact hown7
              have hba : Below wr.heap.size wr (wr.alloc (.cells #[.int .i64 y] 2)) := (Below.refl _ _).alloc (Nat.le_refl _) _
              have R2 := Lib.hid ((HG.out.below hba).kept hgr7 (own_mid_ne (HO.out.alloc _) (HG.out.below hba) (by decide)).2)
              have R3 : Hid (Below w2.heap.size w2 w7) := (HN.out.alloc HB _).grown hgr7 (by simp; omega) (fun q hq => (HO.out.lt q hq).1)
              have e8 : B.length - n = B'.length := by omega
              rw [e8] at R2
              clear hown7 hgr7 hba
              go_wp2
              go_roundw
              case rel => exact ⟨k + 1, B', some ⟨gb, ob + n, none⟩, cb - n, by first | (simp; done) | (simp; omega), by omega, by omega, R1.out, R2.out, HS'.out, R3.out⟩
              case measure => simp; omega
          · have HALL := Lib.hid hall
            have HW : Hid (Wait (zs.map Lib.zigzag) k B (bss.drop (j + 1)).flatten) := ⟨HS.out, by rw [List.length_map]; exact hk, .inr ⟨x, hx, hshort⟩⟩
            have hx64 := HUS.out x (mem_of_at hx)
            have hul := Lib.uvarint_length64 hx64
            have HDEC := Lib.hid hdec
            clear hx hall hdec
            go_wp2_with fail
            refine (varintZ _ _ _ B 0 0 _ HRB.out rfl (varint_zero HDEC.out)).mono ?_
            rintro e w' ⟨rfl, rfl⟩
            go_wp2_with fail
            refine (wholeC _ _ B _ HRB.out HALL.out (by omega)).mono ?_
            rintro e w' ⟨rfl, rfl⟩
            go_wp2
            go_roundw
            case rel => exact ⟨j + 1, k, B, by go_num, by omega, hk, hBl, HO.out, HM.out, HW.out, HN.out⟩
            case measure => simp [intOf]; omega
    · obtain rfl : j = ps.length := by omega
      have hF : (bss.drop ps.length).flatten = [] := by rw [List.drop_of_length_le (by rw [HPB.out]; exact Nat.le_refl _)]; rfl
      have hWE : B.length = 0 ∧ k = zs.length := by
        have h := HW.out
        rw [hF] at h
        have h2 := wait_end h
        rw [List.length_map] at h2
        exact h2
      obtain ⟨hB0, hkz⟩ := hWE
      subst hkz
      obtain ⟨Ab, cb, eb, _, _, _⟩ := HM.out.rd
      rw [hB0] at eb
      rw [eb]
      obtain ⟨Ag, cg, eg, _, _, hrg⟩ := own_rd HO.out
      rw [eg]
      rw [List.take_length] at hrg
      have HRG := Lib.hid hrg
      clear hF eb eg hrg hB0
      go_wp2
      go_loop [71] (fun i => ∃ k : Nat, k ≤ zs.length ∧ i = .int .i64 k) (fun i => zs.length - (intOf i).toNat)
      case atStart => exact ⟨0, Nat.zero_le _, rfl⟩
      case round =>
        obtain ⟨k, hk, rfl⟩ := hrel
        by_cases hlt : k < zs.length
        · obtain ⟨x, hx, hcx⟩ := ic_at hlt
          obtain ⟨g1, off1, rfl, _, hcell1⟩ := (HR.out.below (B2.out.trans (HN.out.mono B2.out.size))).at_ hcx
          obtain ⟨g3, off3, rfl, _, hcell3⟩ := HRG.out.at_ hcx
          clear hx hcx
          go_wp2
          go_round
          case rel => exact ⟨k + 1, by omega, by go_num⟩
          case measure => simp [intOf]; omega
        · obtain rfl : k = zs.length := by omega
          go_wp2
          go_ret
          exact ⟨rfl, B2.out.trans (HN.out.mono B2.out.size)⟩
end Go.Proofs.Ytnlndimojibimaa
