/-
  What is proved here: what impl.ReadSignedList gives back at codes of numbers and a tail. Conditions: at least one piece, at most 12000000 pieces and 11000000 bytes; io.EOF and io.ErrUnexpectedEOF hold values as their initialisers lay them.
-/
import Derived.Test.YtllkjlfjoadifaaDoorCodes
namespace Go.Proofs.YtllkjlfjoadifaaDoor
open Go.RowKit

set_option maxHeartbeats 4000000 in
set_option maxRecDepth 100000 in
theorem readSignedC (A : Option Addr) (c : Nat) (ps : List Value) (bss : List (List UInt8)) (codes : List (List UInt8)) (tail : List UInt8) (most fin : Int) (extra : Nat) (w : World) (aE aU : Addr) (hE : Errs w aE aU) (hr : Rd w A ps) (hp : Parts w ps bss) (h0 : 0 < ps.length) (hl : ps.length ≤ 12000000)
    (hcodes : ∀ c ∈ codes, Code c) (hflat : bss.flatten = codes.flatten ++ tail) (hlc : codes.length ≤ 17592186043904) (hlb : bss.flatten.length ≤ 800000000000000000) (hfin : Ending3 codes.length most tail fin extra) (hm0 : -9223372036854775808 ≤ most) (hm1 : most ≤ 9223372036854775807) :
    Calls Tryd.prog 9 #[.slice A ps.length c, .int .i64 most] w fun e w' => ∃ v, e = .returned (.tuple #[v, .int .i64 ((codes.flatten.length + extra : Nat) : Int), .int .i64 fin]) ∧ w'.ownsRow w.heap.size 2 1 v codes.length (numsS codes) ∧ Below w.heap.size w w' := by
  obtain ⟨i0, hi, hz0, hz1, hz2⟩ := info_parts info_i64R
  have HE := Lib.hid hE
  have HC := Lib.hid hcodes
  have HFI := Lib.hid hfin
  have HFL := Lib.hid hflat
  have hmost : (codes.length : Int) ≤ most := by rcases hfin with h | h | h <;> omega
  have hlen : codes.flatten.length + tail.length ≤ 800000000000000000 := by rw [← List.length_append, ← hflat]; exact hlb
  go_enter Tryd.func9, Tryd.ntmps9
  go_wp2_with fail
  refine (give A c ps bss w hr hp h0 hl).mono ?_
  rintro e w1 ⟨gv, rfl, m, hgv⟩
  rw [hflat] at hgv
  have HG := Lib.hid hgv
  have HB := Lib.hid hgv.old
  clear hE hcodes hfin hflat hgv hr hp hlb
  go_wp2
  go_loopw [7] (fun v wr => ∃ (k m : Nat) (Al : Option Addr) (cl : Nat), v = .slice Al k cl ∧ k ≤ codes.length ∧ wr.ownsRow w.heap.size 2 1 (.slice Al k cl) k (numsS (codes.take k)) ∧ Gv w wr gv (codes.take k).flatten.length m ((codes.drop k).flatten ++ tail) ∧ Below w.heap.size w wr)
    (fun v _ => match v with | .slice _ n _ => codes.length + 1 - n | _ => 0)
  case atStart => exact ⟨0, m, none, 0, rfl, Nat.zero_le _, by simpa [numsS, ic] using World.ownsRow_nil _ _ _ _, HG.out, HB.out⟩
  case round =>
    clear HG HB
    obtain ⟨k, m, Al, cl, rfl, hk, hown, hgv, hnx⟩ := hrel
    have HO := Lib.hid hown
    have HG := Lib.hid hgv
    have HN := Lib.hid hnx
    have HB := hnx.size
    have htk : (codes.take k).flatten.length ≤ codes.flatten.length := by
      have h := congrArg (fun l => (List.flatten l).length) (List.take_append_drop k codes)
      simp only [List.flatten_append, List.length_append] at h
      omega
    clear hown hgv hnx
    by_cases hlt : k < codes.length
    · obtain ⟨d, hd⟩ : ∃ d, codes[k]? = some d := ⟨_, List.getElem?_eq_getElem hlt⟩
      have hdr : (codes.drop k).flatten ++ tail = d ++ ((codes.drop (k + 1)).flatten ++ tail) := by
        rw [List.drop_eq_getElem?_toList_append, hd]; simp
      rw [hdr] at HG
      have HCD := Lib.hid (HC.out d (mem_of_at hd))
      have HTS := Lib.hid (take_snoc hd)
      have hkm : (k : Int) < most := by omega
      clear hdr hd
      go_wp2_with fail
      refine (rv_next w _ gv (codes.take k).flatten.length m HCD.out _ (by omega) HG.out).mono ?_
      rintro e w2 ⟨rfl, ⟨m2, hg2⟩, hf2⟩
      have HG2 := Lib.hid hg2
      have HO2 := Lib.hid (own_fr HO.out (by decide) (by decide) hf2)
      have HN2 : Hid (Below w.heap.size w w2) := hg2.old
      have hs2 := hg2.old.size
      clear hg2 hf2
      go_wp2_with (at_builtin; refine wpList_append_own_wide _ rfl _ _ 22 rfl w.heap.size 2 i0 (.int .i64 0) 1 8 Tryd.underlying22 hi hz0 hz1 hz2 rfl (by decide) _ _ _ rfl (HO2.out.alloc _) ⟨w2.heap.size, 0, none⟩ 1 1 [Value.int .i64 (Lib.unzigzag (uval d))] rfl rfl cell_one (one_num _ _) (by unfold maxLen; omega) (by omega) (by simp; omega) ?_)
      intro v3 w3 hown3 hgr3 _
      have R1 : w3.ownsRow w.heap.size 2 1 v3 (k + 1) (numsS (codes.take (k + 1))) := by
        rw [HTS.out, show numsS (codes.take k ++ [d]) = numsS (codes.take k) ++ [.int .i64 (Lib.unzigzag (uval d))] by simp [numsS, ic]]; exact hown3
      obtain ⟨A3, c3, e3, _, _, _⟩ := own_rd R1
      subst e3
      have HR1 := Lib.hid R1
      have HR2 : Hid (Below w.heap.size w w3) := (HN2.out.alloc hs2 _).grown hgr3 (by simp; omega) (fun q hq => (HO2.out.lt q hq).1)
      have HR3 : Hid (Gv w w3 gv (codes.take (k + 1)).flatten.length m2 ((codes.drop (k + 1)).flatten ++ tail)) := by
        rw [HTS.out, List.flatten_append, List.length_append, show [d].flatten = d by simp]
        exact HG2.out.grow (HR2.out) hgr3 (HO2.out.alloc _) (by decide) (by decide)
      clear R1 hown3 hgr3
      go_wp2
      go_roundw
      case rel => exact ⟨k + 1, m2, A3, c3, rfl, by omega, HR1.out, HR3.out, HR2.out⟩
      case measure => simp; omega
    · obtain rfl : k = codes.length := by omega
      rw [List.drop_length, List.flatten_nil, List.nil_append, List.take_length] at HG
      rw [List.take_length] at HO
      rcases HFI.out with ⟨hm, rfl, rfl, rfl⟩ | ⟨hm, hall, ht0, ht9, rfl, rfl⟩ | ⟨hm, rfl, rfl⟩
      · go_wp2_with fail
        refine (rv_end w _ gv codes.flatten.length m aE aU HE.out HG.out).mono ?_
        rintro e w2 ⟨rfl, ⟨m2, hg2⟩, hf2⟩
        have HO2 := Lib.hid (own_fr HO.out (by decide) (by decide) hf2)
        have HN2 : Hid (Below w.heap.size w w2) := hg2.old
        have hE2 := Lib.hid (HE.out.below hg2.old)
        obtain ⟨_, _, _, _, _, hb, _, _, _, _⟩ := hg2
        have hct := blk_cell hb 1
        simp only [List.getElem?_toArray, List.getElem?_cons_succ, List.getElem?_cons_zero] at hct
        clear hb hf2
        go_wp2
        go_quiet ((go_at_call 19; exact quiet_end (endEof (hE2.out.drewN _))))
        go_wp2
        go_ret3
        exact ⟨_, ret3 rfl (by simp) rfl, HO2.out, below_dn HN2.out _⟩
      · go_wp2_with fail
        refine (rv_short w _ gv codes.flatten.length m tail aE aU HE.out hall ht0 ht9 (by omega) HG.out).mono ?_
        rintro e w2 ⟨rfl, ⟨m2, hg2⟩, hf2⟩
        have HO2 := Lib.hid (own_fr HO.out (by decide) (by decide) hf2)
        have HN2 : Hid (Below w.heap.size w w2) := hg2.old
        have hE2 := Lib.hid (HE.out.below hg2.old)
        obtain ⟨_, _, _, _, _, hb, _, _, _, _⟩ := hg2
        have hct := blk_cell hb 1
        simp only [List.getElem?_toArray, List.getElem?_cons_succ, List.getElem?_cons_zero] at hct
        clear hb hf2 hall
        go_wp2
        go_quiet ((go_at_call 19; exact quiet_end (endShort (hE2.out.drewN _))))
        go_wp2
        go_ret3
        exact ⟨_, ret3 rfl (by simp) rfl, HO2.out, below_dn HN2.out _⟩
      · obtain ⟨_, _, _, _, _, hb, _, _, _, _⟩ := HG.out
        have hct := blk_cell hb 1
        simp only [List.getElem?_toArray, List.getElem?_cons_succ, List.getElem?_cons_zero] at hct
        clear hb
        subst hm
        go_wp2
        go_quiet (fail)
        go_wp2
        go_ret3
        exact ⟨_, ret3 rfl (by simp) rfl, HO.out, below_dn HN.out _⟩
end Go.Proofs.YtllkjlfjoadifaaDoor
